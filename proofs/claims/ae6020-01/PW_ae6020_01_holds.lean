import PyProof.Rows.All
import Wide.All
import OpenK.AllK
import Wide.FinOn
import PySem.Challenge.RW_ae6020_01
set_option Elab.async false
section
open PySem PySem.W PyProof.Rows
set_option maxRecDepth 100000
set_option maxHeartbeats 8000000
namespace Mine
open_top hd for PySem.Challenge.rw_ae6020_01
theorem fill0 : PySem.Challenge.rw_ae6020_01 = PySem.Challenge.rw_ae6020_01 ∧ hd.heap_39 = hd.heap_39 := by k_fill; exact ⟨rfl, rfl⟩
end Mine
end
section
open PySem PySem.Spec PySem.Calls PySem.W PyProof.Rows
set_option maxRecDepth 100000
set_option linter.unusedVariables false
namespace Mine

/-- wpAny under a name that nothing opens -/
structure WP {α : Type} (prog : Program) (w : World) (A : Around) (t : Sem α) (Q : α → Shared → Prop) (E : Value → Shared → Prop) (s : Shared) : Prop where
  mk :: (out : wpAny (model prog w) A t Q E s)

/-- a value without its token -/
def nt : Value → Value
  | .int i _ => .int i 0
  | .float x _ => .float x 0
  | .str x _ => .str x 0
  | .bytes b _ => .bytes b 0
  | v => v
theorem nt_int {v : Value} {i : Int} (h : nt v = .int i 0) : ∃ t, v = .int i t := by
  cases v <;> simp [nt] at h
  exact ⟨_, by rw [h]⟩
theorem nt_bytes {v : Value} {b : Array UInt8} (h : nt v = .bytes b 0) : ∃ t, v = .bytes b t := by
  cases v <;> simp [nt] at h
  exact ⟨_, by rw [h]⟩
theorem nt_str {v : Value} {b : Str} (h : nt v = .str b 0) : ∃ t, v = .str b t := by
  cases v <;> simp [nt] at h
  exact ⟨_, by rw [h]⟩
theorem nt_bool {v : Value} {b : Bool} (h : nt v = .bool b) : v = .bool b := by
  cases v <;> simp [nt] at h
  rw [h]
theorem nt_ref {v : Value} {a : Addr} (h : nt v = .ref a) : v = .ref a := by
  cases v <;> simp [nt] at h
  rw [h]
theorem nt_none {v : Value} (h : nt v = .none) : v = .none := by
  cases v <;> simp [nt] at h
  rfl

theorem bim {op : CmpOp} (h1 : (op == .In) = false) (h2 : (op == .NotIn) = false) (e : Expr) : behindInMarks op e = false := by
  cases e <;> simp [behindInMarks, h1, h2]
/-- e gives v (its token apart); what stands stays (temporaries may come) -/
def Ev (prog : Program) (w : World) (A : Around) (env : Env) (h : Heap) (e : Expr) (v : Value) : Prop :=
  ∀ (h1 : Heap), h.StaysIn h1 → ∀ (gs : Array GenState) (dr : Drawn) (tk : Nat) (os : OsState) (Q E : Value → Shared → Prop),
    (∀ v' h2 tk', nt v' = v → h1.StaysIn h2 → Q v' ⟨h2, gs, dr, tk', os⟩) → WP prog w A (eval e env) Q E ⟨h1, gs, dr, tk, os⟩
/-- the test e comes out as b -/
def Ts (prog : Program) (w : World) (A : Around) (env : Env) (h : Heap) (e : Expr) (b : Bool) : Prop :=
  ∀ (h1 : Heap), h.StaysIn h1 → ∀ (gs : Array GenState) (dr : Drawn) (tk : Nat) (os : OsState) (Q : Bool → Shared → Prop) (E : Value → Shared → Prop),
    (∀ h2 tk', h1.StaysIn h2 → Q b ⟨h2, gs, dr, tk', os⟩) → WP prog w A (PySem.isTrue e env (eval e env)) Q E ⟨h1, gs, dr, tk, os⟩
theorem stays_refl (h : Heap) : h.StaysIn h := fun _ _ e => e
theorem stays_trans {h h1 h2 : Heap} (a : h.StaysIn h1) (b : h1.StaysIn h2) : h.StaysIn h2 := fun x o e => b x o (a x o e)

/-- the rest of an «and», an «or», comes out as b -/
def TsB (prog : Program) (w : World) (A : Around) (env : Env) (h : Heap) (op : BoolOp) (es : List Expr) (p : Pos) (b : Bool) : Prop :=
  ∀ (whole : Sem Value) (h1 : Heap), h.StaysIn h1 → ∀ (gs : Array GenState) (dr : Drawn) (tk : Nat) (os : OsState) (Q : Bool → Shared → Prop) (E : Value → Shared → Prop),
    (∀ h2 tk', h1.StaysIn h2 → Q b ⟨h2, gs, dr, tk', os⟩) → WP prog w A (PySem.isTrue (.BoolOp op es p) env whole) Q E ⟨h1, gs, dr, tk, os⟩
/-- the values of several -/
def EvL (prog : Program) (w : World) (A : Around) (env : Env) (h : Heap) (es : List Expr) (vs : List Value) : Prop :=
  ∀ (h1 : Heap), h.StaysIn h1 → ∀ (gs : Array GenState) (dr : Drawn) (tk : Nat) (os : OsState) (pos : Pos) (Q : List Value → Shared → Prop) (E : Value → Shared → Prop),
    (∀ vs' h2 tk', vs'.map nt = vs → h1.StaysIn h2 → Q vs' ⟨h2, gs, dr, tk', os⟩) → WP prog w A (spliced (backTo pos (starEach es env))) Q E ⟨h1, gs, dr, tk, os⟩

theorem Ev.use {prog : Program} {w : World} {A : Around} {env : Env} {h : Heap} {e : Expr} {v : Value} (q : Ev prog w A env h e v) (h1 : Heap) (s : h.StaysIn h1) (gs : Array GenState) (dr : Drawn) (tk : Nat) (os : OsState) (Q E : Value → Shared → Prop)
    (k : ∀ v' h2 tk', nt v' = v → h1.StaysIn h2 → Q v' ⟨h2, gs, dr, tk', os⟩) : WP prog w A (eval e env) Q E ⟨h1, gs, dr, tk, os⟩ := q h1 s gs dr tk os Q E k
theorem Ts.use {prog : Program} {w : World} {A : Around} {env : Env} {h : Heap} {e : Expr} {b : Bool} (q : Ts prog w A env h e b) (h1 : Heap) (s : h.StaysIn h1) (gs : Array GenState) (dr : Drawn) (tk : Nat) (os : OsState) (Q : Bool → Shared → Prop) (E : Value → Shared → Prop)
    (k : ∀ h2 tk', h1.StaysIn h2 → Q b ⟨h2, gs, dr, tk', os⟩) : WP prog w A (PySem.isTrue e env (eval e env)) Q E ⟨h1, gs, dr, tk, os⟩ := q h1 s gs dr tk os Q E k
theorem EvL.use {prog : Program} {w : World} {A : Around} {env : Env} {h : Heap} {es : List Expr} {vs : List Value} (q : EvL prog w A env h es vs) (h1 : Heap) (s : h.StaysIn h1) (gs : Array GenState) (dr : Drawn) (tk : Nat) (os : OsState) (pos : Pos) (Q : List Value → Shared → Prop) (E : Value → Shared → Prop)
    (k : ∀ vs' h2 tk', vs'.map nt = vs → h1.StaysIn h2 → Q vs' ⟨h2, gs, dr, tk', os⟩) : WP prog w A (spliced (backTo pos (starEach es env))) Q E ⟨h1, gs, dr, tk, os⟩ := q h1 s gs dr tk os pos Q E k

section
variable {prog : Program} {w : World} {A : Around} {env : Env} {h : Heap} {l r e : Expr} {p : Pos} {k : Nat} {x y : Int} {a b : Array UInt8} {c d : Bool} {v u : Value}

theorem Ev.cast (q : Ev prog w A env h e v) (e' : v = u) : Ev prog w A env h e u := e' ▸ q
theorem Ts.cast (q : Ts prog w A env h e c) (e' : c = d) : Ts prog w A env h e d := e' ▸ q
theorem Ev.grow {h' : Heap} (q : Ev prog w A env h e v) (s : h.StaysIn h') : Ev prog w A env h' e v := fun h1 s1 => q h1 (stays_trans s s1)
theorem Ts.grow {h' : Heap} (q : Ts prog w A env h e c) (s : h.StaysIn h') : Ts prog w A env h' e c := fun h1 s1 => q h1 (stays_trans s s1)
theorem Ev.int : Ev prog w A env h (.Constant (.int x) k p) (.int x 0) := fun h1 _ _ _ _ _ _ _ q => .mk (by with_reducible exact wpAny_Constant_int (q _ _ _ rfl (stays_refl h1)))
theorem Ev.cbool : Ev prog w A env h (.Constant (.bool c) k p) (.bool c) := fun h1 _ _ _ tk _ _ _ q => .mk fun _ _ _ => q _ h1 tk rfl (stays_refl h1)
theorem Ev.cnone : Ev prog w A env h (.Constant .none k p) .none := fun h1 _ _ _ tk _ _ _ q => .mk fun _ _ _ => q _ h1 tk rfl (stays_refl h1)
theorem Ev.cstr {s : Str} : Ev prog w A env h (.Constant (.str s) k p) (.str s 0) := fun h1 _ _ _ _ _ _ _ q => .mk (by with_reducible exact Constant_str (q _ _ _ rfl (stays_refl h1)))
theorem Ev.cbytes {s : List UInt8} : Ev prog w A env h (.Constant (.bytes s) k p) (.bytes s.toArray 0) := fun h1 _ _ _ tk _ _ _ q => .mk fun _ _ _ => q (.bytes s.toArray tk) h1 (tk + 1) rfl (stays_refl h1)

theorem Ev.bin {op : Operator} (ql : Ev prog w A env h l v) (qr : Ev prog w A env h r u) {z : Value}
    (k : ∀ v' u' h1 gs dr tk os (Q E : Value → Shared → Prop), h.StaysIn h1 → nt v' = v → nt u' = u → (∀ z' h2 tk', nt z' = z → h1.StaysIn h2 → Q z' ⟨h2, gs, dr, tk', os⟩) → WP prog w A (binaryOp op v' u') Q E ⟨h1, gs, dr, tk, os⟩) :
    Ev prog w A env h (.BinOp l op r p) z := fun h1 s1 gs dr tk os _ _ q =>
  .mk (by with_reducible exact wpAny_BinOp (ql.use h1 s1 gs dr tk os _ _ fun v' h2 tk' e1 s2 => (qr.use h2 (stays_trans s1 s2) gs dr tk' os _ _ fun u' h3 tk'' e2 s3 => (k v' u' h3 gs dr tk'' os _ _ (stays_trans s1 (stays_trans s2 s3)) e1 e2 fun z' h4 tk4 e4 s4 => q z' h4 tk4 e4 (stays_trans s2 (stays_trans s3 s4))).out).out).out)
theorem Ev.binI {op : Operator} (ql : Ev prog w A env h l (.int x 0)) (qr : Ev prog w A env h r (.int y 0)) {z : Int}
    (k : ∀ t t' s (Q E : Value → Shared → Prop), (Q (.int z s.toks) { s with toks := s.toks + 1 }) → WP prog w A (binaryOp op (.int x t) (.int y t')) Q E s) :
    Ev prog w A env h (.BinOp l op r p) (.int z 0) := Ev.bin ql qr fun v' u' h1 gs dr tk os Q E _ e1 e2 q => by
  obtain ⟨t, rfl⟩ := nt_int e1
  obtain ⟨t', rfl⟩ := nt_int e2
  exact k _ _ _ _ _ (q _ _ _ rfl (stays_refl h1))
theorem Ev.add (ql : Ev prog w A env h l (.int x 0)) (qr : Ev prog w A env h r (.int y 0)) : Ev prog w A env h (.BinOp l .Add r p) (.int (x + y) 0) := Ev.binI ql qr fun _ _ _ _ _ q => .mk (by with_reducible exact add_int q)
theorem Ev.sub (ql : Ev prog w A env h l (.int x 0)) (qr : Ev prog w A env h r (.int y 0)) : Ev prog w A env h (.BinOp l .Sub r p) (.int (x - y) 0) := Ev.binI ql qr fun _ _ _ _ _ q => .mk (by with_reducible exact sub_int q)
theorem Ev.mul (ql : Ev prog w A env h l (.int x 0)) (qr : Ev prog w A env h r (.int y 0)) (hm : IntMulOk x y) : Ev prog w A env h (.BinOp l .Mult r p) (.int (x * y) 0) := Ev.binI ql qr fun _ _ _ _ _ q => .mk (by with_reducible exact mul_int q hm)
theorem Ev.mod (ql : Ev prog w A env h l (.int x 0)) (qr : Ev prog w A env h r (.int y 0)) (hm : 0 < y) : Ev prog w A env h (.BinOp l .Mod r p) (.int (x % y) 0) := Ev.binI ql qr fun _ _ s Q E q =>
  .mk (by with_reducible refine mod_int' (by omega) ?_; rw [Int.fmod_eq_emod_of_nonneg _ (by omega)]; exact q)
theorem Ev.div (ql : Ev prog w A env h l (.int x 0)) (qr : Ev prog w A env h r (.int y 0)) (hm : 0 < y) (hs : y.natAbs.log2 < 9000) : Ev prog w A env h (.BinOp l .FloorDiv r p) (.int (x / y) 0) := Ev.binI ql qr fun _ _ s Q E q =>
  .mk (by with_reducible refine floordiv_int (by omega) ?_ (Or.inl (PyProof.noPylong_of_log2 hs)); rw [Int.fdiv_eq_ediv_of_nonneg _ (by omega)]; exact q)
theorem Ev.shl (ql : Ev prog w A env h l (.int x 0)) (qr : Ev prog w A env h r (.int y 0)) (h0 : 0 ≤ y) (h1 : y ≤ 1000000) (h2 : x.natAbs < 2 ^ 64) : Ev prog w A env h (.BinOp l .LShift r p) (.int (x * 2 ^ y.toNat) 0) := Ev.binI ql qr fun _ _ _ _ _ q => .mk (by with_reducible exact lshift_int_small h0 h1 h2 q)
theorem Ev.shr (ql : Ev prog w A env h l (.int x 0)) (qr : Ev prog w A env h r (.int y 0)) (h0 : 0 ≤ y) : Ev prog w A env h (.BinOp l .RShift r p) (.int (x / 2 ^ y.toNat) 0) := Ev.binI ql qr fun _ _ _ _ _ q =>
  .mk (by with_reducible refine rshift_int h0 ?_; rw [Int.fdiv_eq_ediv_of_nonneg _ (Int.le_of_lt (Int.pow_pos (by decide)))]; exact q)
theorem Ev.and (ql : Ev prog w A env h l (.int x 0)) (qr : Ev prog w A env h r (.int y 0)) : Ev prog w A env h (.BinOp l .BitAnd r p) (.int (Builtin.bitAnd x y) 0) := Ev.binI ql qr fun _ _ _ _ _ q => .mk (by with_reducible exact and_int q)
theorem Ev.or (ql : Ev prog w A env h l (.int x 0)) (qr : Ev prog w A env h r (.int y 0)) : Ev prog w A env h (.BinOp l .BitOr r p) (.int (Builtin.bitOr x y) 0) := Ev.binI ql qr fun _ _ _ _ _ q => .mk (by with_reducible exact or_int q)
theorem Ev.xor (ql : Ev prog w A env h l (.int x 0)) (qr : Ev prog w A env h r (.int y 0)) : Ev prog w A env h (.BinOp l .BitXor r p) (.int (Builtin.bitXor x y) 0) := Ev.binI ql qr fun _ _ _ _ _ q => .mk (by with_reducible exact xor_int q)
theorem Ev.neg (ql : Ev prog w A env h l (.int x 0)) : Ev prog w A env h (.UnaryOp .USub l p) (.int (-x) 0) := fun h1 s1 gs dr tk os _ _ q =>
  .mk (by with_reducible exact wpAny_UnaryOp (ql.use h1 s1 gs dr tk os _ _ fun v' h2 tk' e1 s2 => by obtain ⟨t, rfl⟩ := nt_int e1; with_reducible exact neg_int (q _ _ _ rfl s2)).out)
theorem Ev.inv (ql : Ev prog w A env h l (.int x 0)) : Ev prog w A env h (.UnaryOp .Invert l p) (.int (Builtin.bitNot x) 0) := fun h1 s1 gs dr tk os _ _ q =>
  .mk (by with_reducible exact wpAny_UnaryOp (ql.use h1 s1 gs dr tk os _ _ fun v' h2 tk' e1 s2 => by obtain ⟨t, rfl⟩ := nt_int e1; with_reducible exact invert_int (q _ _ _ rfl s2)).out)
theorem Ev.addB (ql : Ev prog w A env h l (.bytes a 0)) (qr : Ev prog w A env h r (.bytes b 0)) (hz : a.size + b.size ≤ 16777216) : Ev prog w A env h (.BinOp l .Add r p) (.bytes (a ++ b) 0) := Ev.bin ql qr fun v' u' h1 gs dr tk os Q E _ e1 e2 q => by
  obtain ⟨t, rfl⟩ := nt_bytes e1
  obtain ⟨t', rfl⟩ := nt_bytes e2
  exact .mk (by with_reducible exact KBy.add_bytes hz fun t' k => q _ _ _ rfl (stays_refl h1))

theorem Ev.cmp {op : CmpOp} (ql : Ev prog w A env h l v) (qr : Ev prog w A env h r u) {z : Bool}
    (k : ∀ v' u' h1 gs dr tk os (Q E : Value → Shared → Prop), h.StaysIn h1 → nt v' = v → nt u' = u → (∀ h2 tk', h1.StaysIn h2 → Q (.bool z) ⟨h2, gs, dr, tk', os⟩) → WP prog w A (compareOp op v' u') Q E ⟨h1, gs, dr, tk, os⟩) (hm : behindInMarks op r = false) :
    Ev prog w A env h (.Compare l [op] [r] p) (.bool z) := fun h1 s1 gs dr tk os _ _ q =>
  .mk (by with_reducible exact wpAny_Compare1 (ql.use h1 s1 gs dr tk os _ _ fun v' h2 tk' e1 s2 => (qr.use h2 (stays_trans s1 s2) gs dr tk' os _ _ fun u' h3 tk'' e2 s3 => (k v' u' h3 gs dr tk'' os _ _ (stays_trans s1 (stays_trans s2 s3)) e1 e2
    fun h4 tk s4 => q _ _ _ rfl (stays_trans s2 (stays_trans s3 s4))).out).out).out hm)
theorem Ts.cmp {op : CmpOp} (ql : Ev prog w A env h l v) (qr : Ev prog w A env h r u) {z : Bool}
    (k : ∀ v' u' h1 gs dr tk os (Q E : Value → Shared → Prop), h.StaysIn h1 → nt v' = v → nt u' = u → (∀ h2 tk', h1.StaysIn h2 → Q (.bool z) ⟨h2, gs, dr, tk', os⟩) → WP prog w A (compareOp op v' u') Q E ⟨h1, gs, dr, tk, os⟩) (hm : behindInMarks op r = false) :
    Ts prog w A env h (.Compare l [op] [r] p) z := fun h1 s1 gs dr tk os _ _ q =>
  .mk (by with_reducible exact wpAny_isTrue_Compare1 (ql.use h1 s1 gs dr tk os _ _ fun v' h2 tk' e1 s2 => (qr.use h2 (stays_trans s1 s2) gs dr tk' os _ _ fun u' h3 tk'' e2 s3 => (k v' u' h3 gs dr tk'' os _ _ (stays_trans s1 (stays_trans s2 s3)) e1 e2
    fun h4 tk s4 => by with_reducible exact wpAny_truthy_bool (q _ _ (stays_trans s2 (stays_trans s3 s4)))).out).out).out hm)
theorem cmpI {op : CmpOp} {z : Bool} (k : ∀ t t' s (Q E : Value → Shared → Prop), Q (.bool z) s → WP prog w A (compareOp op (.int x t) (.int y t')) Q E s) :
    ∀ v' u' h1 gs dr tk os (Q E : Value → Shared → Prop), h.StaysIn h1 → nt v' = .int x 0 → nt u' = .int y 0 → (∀ h2 tk', h1.StaysIn h2 → Q (.bool z) ⟨h2, gs, dr, tk', os⟩) → WP prog w A (compareOp op v' u') Q E ⟨h1, gs, dr, tk, os⟩ :=
  fun v' u' h1 gs dr tk os Q E _ e1 e2 q => by
    obtain ⟨t, rfl⟩ := nt_int e1
    obtain ⟨t', rfl⟩ := nt_int e2
    exact k _ _ _ _ _ (q _ _ (stays_refl h1))
theorem Ts.eq (ql : Ev prog w A env h l (.int x 0)) (qr : Ev prog w A env h r (.int y 0)) : Ts prog w A env h (.Compare l [.Eq] [r] p) (x == y) := Ts.cmp ql qr (cmpI fun _ _ _ _ _ q => .mk (by with_reducible exact eq_int q)) (bim rfl rfl _)
theorem Ts.ne (ql : Ev prog w A env h l (.int x 0)) (qr : Ev prog w A env h r (.int y 0)) : Ts prog w A env h (.Compare l [.NotEq] [r] p) (x != y) := Ts.cmp ql qr (cmpI fun _ _ _ _ _ q => .mk (by with_reducible exact ne_int q)) (bim rfl rfl _)
theorem Ts.lt (ql : Ev prog w A env h l (.int x 0)) (qr : Ev prog w A env h r (.int y 0)) : Ts prog w A env h (.Compare l [.Lt] [r] p) (decide (x < y)) := Ts.cmp ql qr (cmpI fun _ _ _ _ _ q => .mk (by with_reducible exact lt_int q)) (bim rfl rfl _)
theorem Ts.gt (ql : Ev prog w A env h l (.int x 0)) (qr : Ev prog w A env h r (.int y 0)) : Ts prog w A env h (.Compare l [.Gt] [r] p) (decide (y < x)) := Ts.cmp ql qr (cmpI fun _ _ _ _ _ q => .mk (by with_reducible exact gt_int q)) (bim rfl rfl _)
theorem Ts.le (ql : Ev prog w A env h l (.int x 0)) (qr : Ev prog w A env h r (.int y 0)) : Ts prog w A env h (.Compare l [.LtE] [r] p) (decide (x ≤ y)) := Ts.cmp ql qr (cmpI fun _ _ _ _ _ q => .mk (by with_reducible exact le_int q)) (bim rfl rfl _)
theorem Ts.ge (ql : Ev prog w A env h l (.int x 0)) (qr : Ev prog w A env h r (.int y 0)) : Ts prog w A env h (.Compare l [.GtE] [r] p) (decide (y ≤ x)) := Ts.cmp ql qr (cmpI fun _ _ _ _ _ q => .mk (by with_reducible exact ge_int q)) (bim rfl rfl _)
theorem Ev.eq (ql : Ev prog w A env h l (.int x 0)) (qr : Ev prog w A env h r (.int y 0)) : Ev prog w A env h (.Compare l [.Eq] [r] p) (.bool (x == y)) := Ev.cmp ql qr (cmpI fun _ _ _ _ _ q => .mk (by with_reducible exact eq_int q)) (bim rfl rfl _)
theorem Ev.gt (ql : Ev prog w A env h l (.int x 0)) (qr : Ev prog w A env h r (.int y 0)) : Ev prog w A env h (.Compare l [.Gt] [r] p) (.bool (decide (y < x))) := Ev.cmp ql qr (cmpI fun _ _ _ _ _ q => .mk (by with_reducible exact gt_int q)) (bim rfl rfl _)
theorem Ts.plain {e : Expr} (q : Ev prog w A env h e v) (k : ∀ v' h1 gs dr tk os (Q : Bool → Shared → Prop) (E : Value → Shared → Prop), h.StaysIn h1 → nt v' = v → (∀ h2 tk', h1.StaysIn h2 → Q c ⟨h2, gs, dr, tk', os⟩) → WP prog w A (truthy v') Q E ⟨h1, gs, dr, tk, os⟩)
    (he : ∀ whole, PySem.isTrue e env whole = (do let v ← whole; standAt e.pos; holding [v] (truthy v))) : Ts prog w A env h e c := fun h1 s1 gs dr tk os _ _ z =>
  .mk (by with_reducible exact isTrue_plain (q.use h1 s1 gs dr tk os _ _ fun v' h2 tk' e1 s2 => (k v' h2 gs dr tk' os _ _ (stays_trans s1 s2) e1 fun h3 tk3 s3 => z _ _ (stays_trans s2 s3)).out).out (he _))
theorem Ts.int (q : Ev prog w A env h e (.int x 0)) (he : ∀ whole, PySem.isTrue e env whole = (do let v ← whole; standAt e.pos; holding [v] (truthy v)) := by intro _; rfl) : Ts prog w A env h e (x != 0) :=
  Ts.plain q (fun v' h1 gs dr tk os Q E _ e1 z => by obtain ⟨t, rfl⟩ := nt_int e1; exact .mk (by with_reducible exact truthy_int (z _ _ (stays_refl h1)))) he
theorem Ts.bool (q : Ev prog w A env h e (.bool c)) (he : ∀ whole, PySem.isTrue e env whole = (do let v ← whole; standAt e.pos; holding [v] (truthy v)) := by intro _; rfl) : Ts prog w A env h e c :=
  Ts.plain q (fun v' h1 gs dr tk os Q E _ e1 z => by obtain rfl := nt_bool e1; exact .mk (by with_reducible exact wpAny_truthy_bool (z _ _ (stays_refl h1)))) he
theorem Ts.not (q : Ts prog w A env h e c) : Ts prog w A env h (.UnaryOp .Not e p) (!c) := fun h1 s1 gs dr tk os _ _ z => .mk (by with_reducible exact isTrue_not (q.use h1 s1 gs dr tk os _ _ fun h2 tk' s2 => z h2 tk' s2).out)
theorem TsB.use {op : BoolOp} {es : List Expr} (q : TsB prog w A env h op es p c) (whole : Sem Value) (h1 : Heap) (s : h.StaysIn h1) (gs : Array GenState) (dr : Drawn) (tk : Nat) (os : OsState) (Q : Bool → Shared → Prop) (E : Value → Shared → Prop)
    (k : ∀ h2 tk', h1.StaysIn h2 → Q c ⟨h2, gs, dr, tk', os⟩) : WP prog w A (PySem.isTrue (.BoolOp op es p) env whole) Q E ⟨h1, gs, dr, tk, os⟩ := q whole h1 s gs dr tk os Q E k
theorem TsB.and {es : List Expr} (q : Ts prog w A env h e c) (q' : c = true → TsB prog w A env h .And es p d) : TsB prog w A env h .And (e :: es) p (c && d) := fun whole h1 s1 gs dr tk os _ _ z =>
  .mk (by with_reducible exact isTrue_and (WP.out (q.use h1 s1 gs dr tk os _ _ fun h2 tk' s2 => by
    cases c with
    | true => rw [if_pos rfl]; exact ((q' rfl).use whole h2 (stays_trans s1 s2) gs dr tk' os _ _ fun h3 tk3 s3 => z h3 tk3 (stays_trans s2 s3)).out
    | false => rw [if_neg Bool.false_ne_true]; exact Bool.false_and d ▸ z h2 tk' s2)))
theorem TsB.andN : TsB prog w A env h .And [] p true := fun _ h1 _ _ _ _ _ _ _ z => .mk (by with_reducible exact isTrue_and_nil (z _ _ (stays_refl h1)))
theorem TsB.or {es : List Expr} (q : Ts prog w A env h e c) (q' : c = false → TsB prog w A env h .Or es p d) : TsB prog w A env h .Or (e :: es) p (c || d) := fun whole h1 s1 gs dr tk os _ _ z =>
  .mk (by with_reducible exact isTrue_or (WP.out (q.use h1 s1 gs dr tk os _ _ fun h2 tk' s2 => by
    cases c with
    | false => rw [if_neg Bool.false_ne_true]; exact ((q' rfl).use whole h2 (stays_trans s1 s2) gs dr tk' os _ _ fun h3 tk3 s3 => z h3 tk3 (stays_trans s2 s3)).out
    | true => rw [if_pos rfl]; exact Bool.true_or d ▸ z h2 tk' s2)))
theorem TsB.orN : TsB prog w A env h .Or [] p false := fun _ h1 _ _ _ _ _ _ _ z => .mk (by with_reducible exact isTrue_or_nil (z _ _ (stays_refl h1)))
theorem TsB.ts {op : BoolOp} {es : List Expr} (q : TsB prog w A env h op es p c) : Ts prog w A env h (.BoolOp op es p) c := fun h1 s1 gs dr tk os _ _ z => q.use _ h1 s1 gs dr tk os _ _ z
theorem Ev.ite {t : Expr} (q : Ts prog w A env h t c) (q1 : c = true → Ev prog w A env h l v) (q2 : c = false → Ev prog w A env h r v) : Ev prog w A env h (.IfExp t l r p) v := fun h1 s1 gs dr tk os _ _ z =>
  .mk (by with_reducible exact IfExp_ (WP.out (q.use h1 s1 gs dr tk os _ _ fun h2 tk' s2 => by
    cases c with
    | true => rw [if_pos rfl]; exact ((q1 rfl).use h2 (stays_trans s1 s2) gs dr tk' os _ _ fun v' h3 tk3 e3 s3 => z v' h3 tk3 e3 (stays_trans s2 s3)).out
    | false => rw [if_neg Bool.false_ne_true]; exact ((q2 rfl).use h2 (stays_trans s1 s2) gs dr tk' os _ _ fun v' h3 tk3 e3 s3 => z v' h3 tk3 e3 (stays_trans s2 s3)).out)))

theorem EvL.nil : EvL prog w A env h [] [] := fun h1 _ _ _ _ _ _ _ _ z => .mk (by with_reducible exact spliced_none (z [] _ _ rfl (stays_refl h1)))
theorem EvL.cons {es : List Expr} {vs : List Value} (q : Ev prog w A env h e v) (q' : EvL prog w A env h es vs) (he : starEach (e :: es) env = (false, eval e env) :: starEach es env := by rfl) : EvL prog w A env h (e :: es) (v :: vs) :=
  fun h1 s1 gs dr tk os pos _ _ z => .mk (by with_reducible exact spliced_more (q.use h1 s1 gs dr tk os _ _ fun v' h2 tk' e1 s2 => (q'.use h2 (stays_trans s1 s2) gs dr tk' os pos _ _ fun vs' h3 tk3 e3 s3 => z _ _ _ (by rw [List.map_cons, e1, e3]) (stays_trans s2 s3)).out).out he)
end

end Mine
end
section
open PySem PySem.Spec PySem.Calls PySem.W PyProof.Rows
set_option maxRecDepth 100000
set_option linter.unusedVariables false
namespace Mine

def frv : List Str → List (Option Value) → Str → Option Value
  | n :: ns, v :: vs, x => if x = n then v else frv ns vs x
  | _, _, _ => none
inductive Pk : List Str → List (Option Value) → Str → Value → Prop
  | hd {x ns v vs} : Pk (x :: ns) (some v :: vs) x v
  | tl {x ns v vs n u} : Pk ns vs x v → Pk (n :: ns) (u :: vs) x v
inductive Pt : List Str → List (Option Value) → Str → Option Value → List (Option Value) → Prop
  | hd {x ns u v vs} : Pt (x :: ns) (u :: vs) x v (v :: vs)
  | tl {x ns v vs vs' n u} : Pt ns vs x v vs' → Pt (n :: ns) (u :: vs) x v (u :: vs')
theorem Pk.mem {ns vs x v} (p : Pk ns vs x v) : x ∈ ns := by
  induction p with
  | hd => exact .head _
  | tl _ ih => exact .tail _ ih
theorem Pk.get {ns vs x v} (nd : ns.Nodup) (p : Pk ns vs x v) : frv ns vs x = some v := by
  induction p with
  | hd => simp [frv]
  | @tl x ns v vs n u p ih =>
    have h := List.nodup_cons.mp nd
    have : x ≠ n := fun e => h.1 (e ▸ p.mem)
    simp [frv, this, ih h.2]
theorem Pt.mem {ns vs x v vs'} (p : Pt ns vs x v vs') : x ∈ ns := by
  induction p with
  | hd => exact .head _
  | tl _ ih => exact .tail _ ih
theorem Pt.set {ns vs x v vs'} (nd : ns.Nodup) (p : Pt ns vs x v vs') (y : Str) : frv ns vs' y = if y = x then v else frv ns vs y := by
  induction p with
  | @hd x ns u v vs => by_cases h : y = x <;> simp [frv, h]
  | @tl x ns v vs vs' n u p ih =>
    have h := List.nodup_cons.mp nd
    have hx : x ≠ n := fun e => h.1 (e ▸ p.mem)
    by_cases hy : y = n
    · subst hy
      simp [frv, Ne.symm hx]
    · simp [frv, hy, ih h.2]

/-- the frame at L (its locals, tokens apart), and the ledger -/
structure St (h₀ : Heap) (L : Addr) (h : Heap) (ns : List Str) (vs : List (Option Value)) (news : List (Addr × Obj)) : Prop where
  fr : ∃ m, Fr h₀ L h m ∧ ∀ x, (m x).map nt = frv ns vs x
  nw : News h₀ L h news
  nd : (news.map (·.1)).Nodup

/-- what stands of the names of a def's frame -/
structure FnEnv (env : Env) (L : Addr) (ns gl : List Str) : Prop where
  kind : env.scope.kind = .function
  locals : env.locals = L
  globals : env.globals = mainGlobals
  builtins : env.builtins = builtinsNs
  frame : env.frame = some L
  nd : ns.Nodup
  loc : ∀ x ∈ ns, env.kindOf x = some .local
  glo : ∀ x ∈ gl, env.kindOf x = some .globalImplicit
  dbg : ∀ x ∈ ns ++ gl, (x == ("__debug__" : Str)) = false

structure Cx (w : World) (loose : List Str) (mean : ExcName → Option Value) (mg mb : Str → Option Value) (A : Around) (env : Env) (outer : List Env) (A₀ : Around) (base h₀ : Heap) (L : Addr) (lv : Nat) : Prop where
  below : Below A₀ base outer h₀
  frames : A.frames = some (env :: outer)
  frame : env.frame = some L
  kind : env.scope.kind = .function
  X : (hd.heap_39 w.params).In h₀
  T : Top topProg loose mean mg mb h₀
  hand : A.handled = none
  depth : A.depth + lv ≤ 330
  units : A.units + 20 * lv ≤ 8000

section
variable {prog : Program} {w : World} {loose : List Str} {mean : ExcName → Option Value} {mg mb : Str → Option Value} {A A₀ : Around} {env : Env} {outer : List Env} {base h₀ h : Heap} {L : Addr} {lv : Nat} {ns gl : List Str} {vs vs' : List (Option Value)} {news : List (Addr × Obj)} {x : Str} {v : Value} {p : Pos}

theorem Cx.le {lv' : Nat} (C : Cx w loose mean mg mb A env outer A₀ base h₀ L lv) (hl : lv' ≤ lv) : Cx w loose mean mg mb A env outer A₀ base h₀ L lv' :=
  { C with depth := by have := C.depth; omega, units := by have := C.units; omega }

theorem St.grow {h' : Heap} (S : St h₀ L h ns vs news) (s : h.StaysIn h') : St h₀ L h' ns vs news := by
  obtain ⟨m, F, hm⟩ := S.fr
  exact ⟨⟨m, ⟨F.ns.keeps s, fun b o e => s b o (F.keep b o e), F.above⟩, hm⟩, fun p hp => ⟨s _ _ (S.nw p hp).1, (S.nw p hp).2⟩, S.nd⟩
theorem Ev.loc (N : FnEnv env L ns gl) (S : St h₀ L h ns vs news) (q : Pk ns vs x v) : Ev prog w A env h (.Name x p) v := fun h1 s1 gs dr tk os Q E k => by
  obtain ⟨m, F, hm⟩ := (S.grow s1).fr
  have e := hm x
  rw [q.get N.nd] at e
  obtain ⟨v', hv, hn⟩ := Option.map_eq_some_iff.mp e
  exact .mk (by with_reducible exact wpAny_Name (wpAny_loadName_local N.kind (N.loc x q.mem) (N.locals ▸ F.ns) hv (k _ _ _ hn (stays_refl h1))) (N.dbg x (List.mem_append_left _ q.mem)))

theorem Ev.glob (N : FnEnv env L ns gl) (C : Cx w loose mean mg mb A env outer A₀ base h₀ L lv) (S : St h₀ L h ns vs news) (e : nsIn (hd.heap_39 w.params) mainGlobals x = some (some v)) (hx : x ∈ gl) {u : Value} (hu : nt v = u) : Ev prog w A env h (.Name x p) u := fun h1 s1 gs dr tk os Q E k => by
  obtain ⟨m, F, hm⟩ := (S.grow s1).fr
  exact .mk (by with_reducible exact Name_function_global N.kind (N.glo x hx) (loadGlobal_global (N.globals ▸ C.T.g.keeps F.keep) (mg_of C.X C.T.g e) (k _ _ _ hu (stays_refl h1))) (N.dbg x (List.mem_append_right _ hx)))

theorem Ev.bi (N : FnEnv env L ns gl) (C : Cx w loose mean mg mb A env outer A₀ base h₀ L lv) (S : St h₀ L h ns vs news) (e : nsIn (hd.heap_39 w.params) mainGlobals x = some none) (hx : x ∈ gl) (hv : bootBuiltins x = some v) (hn : x ≠ "__name__") (hu : nt v = v) : Ev prog w A env h (.Name x p) v := fun h1 s1 gs dr tk os Q E k => by
  obtain ⟨m, F, hm⟩ := (S.grow s1).fr
  exact .mk (by with_reducible exact Name_function_global N.kind (N.glo x hx) (loadGlobal_builtin (N.globals ▸ C.T.g.keeps F.keep) (mg_none_of C.X C.T.g e) (N.builtins ▸ C.T.b.keeps F.keep) ((C.T.builtins x hn).trans hv) (k _ _ _ hu (stays_refl h1))) (N.dbg x (List.mem_append_right _ hx)))

/-- a store into a local -/
theorem st_loc (N : FnEnv env L ns gl) (S : St h₀ L h ns vs news) (q : Pt ns vs x (some (nt v)) vs') {gs : Array GenState} {dr : Drawn} {tk : Nat} {os : OsState} {Q : Unit → Shared → Prop} {E : Value → Shared → Prop}
    (k : ∀ h' tk', St h₀ L h' ns vs' news → Q () ⟨h', gs, dr, tk', os⟩) : WP prog w A (storeName env x v) Q E ⟨h, gs, dr, tk, os⟩ := by
  obtain ⟨m, F, hm⟩ := S.fr
  apply WP.mk
  with_reducible refine wpAny_storeName_local (N.loc x q.mem) (N.locals ▸ F.ns) (fun h' hn hs => k h' _ ⟨⟨_, F.set (N.locals ▸ hn) (N.locals ▸ hs), fun y => ?_⟩, S.nw.set (N.locals ▸ hs), S.nd⟩) ?_
  · rw [q.set N.nd y]
    by_cases hy : y = x
    · simp [hy]
    · simp [hy, hm y]
  · show (env.scope.kind == .class || (env.scope.kind == .module && env.locals != env.globals)) = false
    rw [N.kind]; rfl
end

section
variable {prog : Program} {w : World} {loose : List Str} {mean : ExcName → Option Value} {mg mb : Str → Option Value} {A A₀ : Around} {env : Env} {outer : List Env} {base h₀ h : Heap} {L : Addr} {lv : Nat} {ns gl : List Str} {vs vs' : List (Option Value)} {news : List (Addr × Obj)} {x : Str} {v : Value} {p p' : Pos}
variable {gs : Array GenState} {dr : Drawn} {tk : Nat} {os : OsState} {Q : Flow → Shared → Prop} {E : Value → Shared → Prop} {e t : Expr} {rest b1 b2 : List Stmt} {c : Bool}

/-- the rest of a block behind a statement -/
def Nx (prog : Program) (w : World) (A : Around) (rest : List Stmt) (env : Env) (Q : Flow → Shared → Prop) (E : Value → Shared → Prop) : Flow → Shared → Prop
  | .next, s' => wpAny (model prog w) A (execs rest env) Q E s'
  | f, s' => Q f s'
theorem x_cons {st : Stmt} {s : Shared} (q : WP prog w A (exec st env) (Nx prog w A rest env Q E) E s) : WP prog w A (execs (st :: rest) env) Q E s := by
  apply WP.mk
  with_reducible refine wpAny_execs_cons (wpAny_mono q.out (fun f s' z => ?_) fun _ _ x => x)
  cases f <;> exact z
theorem x_assign (N : FnEnv env L ns gl) (S : St h₀ L h ns vs news) (q : Ev prog w A env h e v) (pt : Pt ns vs x (some v) vs')
    (k : ∀ h' tk', St h₀ L h' ns vs' news → WP prog w A (execs rest env) Q E ⟨h', gs, dr, tk', os⟩)
    (hs : swapsWith e (some (.Name x p')) p.line env = pure false := by rfl) : WP prog w A (execs (.Assign [.Name x p'] e p :: rest) env) Q E ⟨h, gs, dr, tk, os⟩ :=
  x_cons (.mk (by with_reducible exact wpAny_Assign_Name (q.use h (stays_refl h) gs dr tk os _ _ fun v' h2 tk' hv s2 => (st_loc (prog := prog) (w := w) (A := A) (E := E) N (S.grow s2) (hv ▸ pt) (fun h' tk'' S' => (k h' tk'' S').out)).out).out hs))

theorem x_if (q : Ts prog w A env h t c) (k1 : c = true → ∀ h2 tk', h.StaysIn h2 → WP prog w A (execs b1 env) (Nx prog w A rest env Q E) E ⟨h2, gs, dr, tk', os⟩)
    (k2 : c = false → ∀ h2 tk', h.StaysIn h2 → WP prog w A (execs b2 env) (Nx prog w A rest env Q E) E ⟨h2, gs, dr, tk', os⟩) :
    WP prog w A (execs (.If t b1 b2 p :: rest) env) Q E ⟨h, gs, dr, tk, os⟩ :=
  x_cons (.mk (by with_reducible exact wpAny_If (WP.out (q.use h (stays_refl h) gs dr tk os _ _ fun h2 tk' s2 => by
    cases c with
    | true => rw [if_pos rfl]; exact (k1 rfl h2 tk' s2).out
    | false => rw [if_neg Bool.false_ne_true]; exact (k2 rfl h2 tk' s2).out))))
theorem x_ret (q : Ev prog w A env h e v) (k : ∀ v' h2 tk', nt v' = v → h.StaysIn h2 → Q (.ret v') ⟨h2, gs, dr, tk', os⟩) : WP prog w A (execs (.Return (some e) p :: rest) env) Q E ⟨h, gs, dr, tk, os⟩ :=
  x_cons (.mk (by (with_reducible refine wpAny_Return_some (q.use h (stays_refl h) gs dr tk os _ _ fun v' h2 tk' hv s2 => ?_).out); exact k v' h2 tk' hv s2))
theorem x_nil (k : Q .next ⟨h, gs, dr, tk, os⟩) : WP prog w A (execs [] env) Q E ⟨h, gs, dr, tk, os⟩ := .mk (by with_reducible exact wpAny_execs_nil k)
end
def RetQ (Q : Value → Shared → Prop) : Flow → Shared → Prop
  | .ret v, s => Q v s
  | _, _ => False

/-- what a return hands on -/
abbrev Ret (g : Heap) (L : Addr) (gs : Array GenState) (dr : Drawn) (os : OsState) (Rel : Value → List (Addr × Obj) → Prop) (Q : Flow → Shared → Prop) : Prop :=
  ∀ v h' tk' ns vs news', St g L h' ns vs news' → Rel v news' → Q (.ret v) ⟨h', gs, dr, tk', os⟩

section
variable {prog : Program} {w : World} {loose : List Str} {mean : ExcName → Option Value} {mg mb : Str → Option Value} {A A₀ : Around} {env : Env} {outer : List Env} {base h₀ h : Heap} {L : Addr} {lv : Nat} {ns gl ns' gl' : List Str} {vs vs' : List (Option Value)} {foot rest : List (Addr × Obj)}
variable {gs : Array GenState} {dr : Drawn} {tk : Nat} {os : OsState} {Q E : Value → Shared → Prop}
variable {name qual : Str} {params : Arguments} {body : List Stmt} {scope : Scope} {cl : List (Str × Addr)} {dV kV doc pm cdv ct : Value} {an : Option Addr} {fo : Obj} {f : Addr} {args : Args} {binds : List (Str × Value)} {Rel : Value → List (Addr × Obj) → Prop}

theorem St.ret {m : Str → Option Value} {g h' : Heap} {L' : Addr} {ns2 : List Str} {vs2 : List (Option Value)} {news' : List (Addr × Obj)} (F : Fr h₀ L h m) (hm : ∀ x, (m x).map nt = frv ns vs x) (N : News h₀ L h (foot ++ rest)) (nd : ((foot ++ rest).map (·.1)).Nodup)
    (eg : g = hideAll h (foot.map (·.1))) (S : St g L' h' ns2 vs2 news') : St h₀ L h' ns vs (news' ++ rest) := by
  subst eg
  obtain ⟨m', F', _⟩ := S.fr
  have kept : ∀ p ∈ rest, (hideAll h (foot.map (·.1))).get? p.1 = some p.2 := fun p hp => hideAll_get _ (N p (List.mem_append_right _ hp)).1 fun hq => by
    rw [List.map_append] at nd
    exact (List.nodup_append.mp nd).2.2 p.1 hq p.1 (List.mem_map_of_mem hp) rfl
  have st : h₀.StaysIn (hideAll h (foot.map (·.1))) := fun b o e => hideAll_get _ (F.keep b o e) fun q => by
    obtain ⟨p, hp, rfl⟩ := List.mem_map.mp q
    rw [(N p (List.mem_append_left _ hp)).2.2] at e; cases e
  obtain ⟨oL, es, ep, hL, hLd, hLk, hLf⟩ := F.ns
  have nL : L ∉ foot.map (·.1) := fun q => by
    obtain ⟨p, hp, e⟩ := List.mem_map.mp q
    exact (N p (List.mem_append_left _ hp)).2.1 e
  have hLg := hideAll_get (foot.map (·.1)) hL nL
  have new : ∀ p ∈ news', h₀.get? p.1 = none ∧ p.1 ≠ L := fun p hp => by
    have z := (S.nw p hp).2.2
    refine ⟨?_, fun q => by rw [q, hLg] at z; cases z⟩
    cases q : h₀.get? p.1 with
    | none => rfl
    | some o => rw [st _ _ q] at z; cases z
  refine ⟨⟨m, ⟨⟨oL, es, ep, F'.keep L oL hLg, hLd, hLk, hLf⟩, fun b o e => F'.keep b o (st b o e), F.above⟩, hm⟩, fun p hp => ?_, ?_⟩
  · rcases List.mem_append.mp hp with hp | hp
    · exact ⟨(S.nw p hp).1, (new p hp).2, (new p hp).1⟩
    · exact ⟨F'.keep _ _ (kept p hp), (N p (List.mem_append_right _ hp)).2⟩
  · rw [List.map_append, List.nodup_append]
    rw [List.map_append, List.nodup_append] at nd
    refine ⟨S.nd, nd.2.1, fun a ha b hb e => ?_⟩
    subst e
    obtain ⟨p, hp, rfl⟩ := List.mem_map.mp ha
    obtain ⟨q, hq, e⟩ := List.mem_map.mp hb
    have z := (S.nw p hp).2.2
    rw [← e, kept q hq] at z; cases z

/-- a call of a def of plain locals (a closure's names may stand free) -/
theorem call_fn (C : Cx w loose mean mg mb A env outer A₀ base h₀ L (lv + 1)) (S : St h₀ L h ns vs (foot ++ rest))
    (ho : h.get? f = some fo) (hdat : fo.data = .func (fnX name qual params body scope cl dV kV doc pm an cdv ct)) (hcd : h.CodeRec cdv qual)
    (hbind : BindsTo ⟨h, gs, dr, tk, os⟩ (fnX name qual params body scope cl dV kV doc pm an cdv ct) args binds)
    (hloc : ∀ y ∈ binds, scope.names.lookup y.1 = some .local) (hcell : ∀ x ∈ scope.names, x.2 ≠ .cell)
    (hfe : ∀ L', FnEnv (envX qual scope L' f cdv cl) L' ns' gl') (hvs : ∀ x, (binds.reverse.lookup x).map nt = frv ns' vs' x)
    (hb : ∀ g L' h₁ tk₁ env' A', env' = envX qual scope L' f cdv cl → A' = A.deeper env' → Cx w loose mean mg mb A' env' (env :: outer) A base g L' lv → FnEnv env' L' ns' gl' → St g L' h₁ ns' vs' foot →
      (∀ b o, b ∉ foot.map (·.1) → h.get? b = some o → g.get? b = some o) → ∀ Q' E', Ret g L' gs dr os Rel Q' → WP prog w A' (execs body env') Q' E' ⟨h₁, gs, dr, tk₁, os⟩)
    (k : ∀ v h' tk' news', Rel v news' → St h₀ L h' ns vs (news' ++ rest) → Q v ⟨h', gs, dr, tk', os⟩)
    (hco : scope.isCoroutine = false := by rfl) (hgen : scope.isGenerator = false := by rfl) (hk : scope.kind = .function := by rfl) :
    WP prog w A (PySem.call (.ref f) args.pos args.kw) Q E ⟨h, gs, dr, tk, os⟩ := by
  obtain ⟨m, F, hm⟩ := S.fr
  have N1 : News h₀ L h foot := fun p hp => S.nw p (List.mem_append_left _ hp)
  obtain ⟨FG, BG, st, _⟩ := groundX (s := ⟨h, gs, dr, tk, os⟩) (R := fun _ _ => True) C.below F N1 C.frames C.frame C.kind
  apply WP.mk
  with_reducible refine wpAny_call ?_
  refine codeAny_call_def (fd := fnX name qual params body scope cl dV kV doc pm an cdv ct) (body := body) (binds := binds) (by have := C.depth; unfold recursionLimit; omega) ho hdat (C.T.nolimit.keeps F.keep) hcd rfl hbind hcell hloc (fun h₁ hns hk₁ => ?_) hco hgen hk
  have Cb : Cx w loose mean mg mb (A.deeper (envX qual scope h.objs.size f cdv cl)) (envX qual scope h.objs.size f cdv cl) (env :: outer) A base (hideAll h (foot.map (·.1))) h.objs.size lv :=
    { below := BG, frames := Around.frames_deeper C.frames, frame := rfl, kind := hk, X := C.X.keeps st, T := C.T.keeps st, hand := C.hand,
      depth := by have := C.depth; show A.depth + 1 + lv ≤ 330; omega, units := by have := C.units; show A.units + 3 + 20 * lv ≤ 8000; omega }
  have Sb : St (hideAll h (foot.map (·.1))) h.objs.size h₁ ns' vs' foot := by
    refine ⟨⟨_, ⟨hns, fun b o e => hk₁ b o (of_hideAll _ e), Nat.le_of_eq (hideAll_size _ _)⟩, hvs⟩, fun p hp => ⟨hk₁ _ _ (N1 p hp).1, Nat.ne_of_lt (Heap.lt_size (N1 p hp).1), hideAll_none _ (List.mem_map_of_mem hp)⟩, ?_⟩
    have nd := S.nd
    rw [List.map_append, List.nodup_append] at nd
    exact nd.1
  have body := (hb _ _ h₁ (tk + binds.length) _ _ rfl rfl Cb (hfe _) Sb (fun b o hb e => hideAll_get _ e hb) (RetQ Q) (fun e s' => wpAny (model prog w) (A.deeper (envX qual scope h.objs.size f cdv cl)) (leaving (envX qual scope h.objs.size f cdv cl) e) (fun _ s'' => E e s'') (fun e' s'' => E e' s'') s')
    fun v h' tk' ns2 vs2 news' S' R => k v h' tk' news' R (S'.ret F hm S.nw S.nd rfl)).out
  refine wpAny_mono body (fun fl s' hq => ?_) (fun _ _ x => x)
  cases fl <;> first | exact hq | exact hq.elim
end
end Mine
end
section
open PySem PySem.Spec PySem.Calls PySem.W PyProof.Rows
set_option maxRecDepth 100000
set_option linter.unusedVariables false
namespace Mine

inductive Sel (a : Addr) (o o' : Obj) : List (Addr × Obj) → List (Addr × Obj) → Prop
  | hd {r} : Sel a o o' ((a, o) :: r) ((a, o') :: r)
  | tl {p r r'} : Sel a o o' r r' → Sel a o o' (p :: r) (p :: r')
theorem Sel.addrs {a o o' l l'} (q : Sel a o o' l l') : l'.map (·.1) = l.map (·.1) := by
  induction q with
  | hd => rfl
  | tl _ ih => simp [ih]
theorem Sel.mem {a o o' l l'} (q : Sel a o o' l l') : (a, o) ∈ l := by
  induction q with
  | hd => exact .head _
  | tl _ ih => exact .tail _ ih
theorem Sel.upd {a o o' l l'} (q : Sel a o o' l l') (nd : (l.map (·.1)).Nodup) : Upd a o o' l l' := by
  induction q with
  | @hd r =>
    refine .head fun p hp e => ?_
    have := (List.nodup_cons.mp nd).1
    exact this (List.mem_map.mpr ⟨p, hp, e⟩)
  | @tl p r r' q ih =>
    have h := List.nodup_cons.mp nd
    refine .tail (fun e => h.1 (List.mem_map.mpr ⟨_, q.mem, e.symm⟩)) (ih h.2)

section
variable {h₀ h : Heap} {L : Addr} {ns : List Str} {vs : List (Option Value)} {news : List (Addr × Obj)}
theorem St.elim {P : Prop} (S : St h₀ L h ns vs news) (k : ∀ m, Fr h₀ L h m → (∀ h' news', Fr h₀ L h' m → News h₀ L h' news' → (news'.map (·.1)).Nodup → St h₀ L h' ns vs news') → P) : P := by
  obtain ⟨m, F, hm⟩ := S.fr
  exact k m F fun h' n' F' N' nd => ⟨⟨m, F', hm⟩, N', nd⟩
theorem St.perm {news' : List (Addr × Obj)} (S : St h₀ L h ns vs news) (p : ∀ q ∈ news', q ∈ news) (nd : (news'.map (·.1)).Nodup) : St h₀ L h ns vs news' := ⟨S.fr, fun q hq => S.nw q (p q hq), nd⟩
theorem St.drop {q : Addr × Obj} (S : St h₀ L h ns vs (q :: news)) : St h₀ L h ns vs news := ⟨S.fr, fun p hp => S.nw p (.tail _ hp), (List.nodup_cons.mp S.nd).2⟩
theorem nd_cons {a : Addr} {o : Obj} (nd : (news.map (·.1)).Nodup) (h : ∀ p ∈ news, p.1 < a) : (((a, o) :: news).map (·.1)).Nodup :=
  List.nodup_cons.mpr ⟨fun q => by obtain ⟨p, hp, e⟩ := List.mem_map.mp q; exact Nat.ne_of_lt (h p hp) e, nd⟩
theorem St.seq {D : Addr} {its its' : Array Value} {n n' : Nat} {news' : List (Addr × Obj)} (S : St h₀ L h ns vs news) (sel : Sel D (listOf its n) (listOf its' n') news news') (f : Array Value → Array Value) (he : f its = its') (hn : (if (its'.size == its.size) = true then n else n + 1) = n') :
    St h₀ L (h.update D (Obj.mapSeq f)) ns vs news' := S.elim fun m F back => by
  obtain ⟨pre, post, e1, e2, a, b⟩ := (sel.upd S.nd).split
  subst e1 e2
  have z := S.nw (D, listOf its n) (List.mem_append.mpr (.inr (.head _)))
  exact back _ _ (F.change (Heap.SameBut.update ..) z.2.1 z.2.2) (ki_turn f S.nw a b he hn) (sel.addrs ▸ S.nd)
theorem St.get {a : Addr} {o : Obj} (S : St h₀ L h ns vs news) (hm : (a, o) ∈ news) : h.get? a = some o := (S.nw _ hm).1
end

section
variable {prog : Program} {w : World} {loose : List Str} {mean : ExcName → Option Value} {mg mb : Str → Option Value} {A A₀ : Around} {env : Env} {outer : List Env} {base h₀ h : Heap} {L : Addr} {lv : Nat} {ns gl : List Str} {vs vs' : List (Option Value)} {news news' : List (Addr × Obj)} {x : Str} {v : Value} {p p' p2 : Pos}
variable {gs : Array GenState} {dr : Drawn} {tk : Nat} {os : OsState} {Q : Value → Shared → Prop} {QF : Flow → Shared → Prop} {E : Value → Shared → Prop} {e f t o i : Expr} {rest b1 b2 : List Stmt} {c : Bool} {D : Addr} {its : Array Value} {n : Nat} {args : List Expr} {pos : Pos}

theorem bt_cons {b : Expr} {bs : List Expr} (he : starEach (b :: bs) env = (false, eval b env) :: starEach bs env) : backTo pos (starEach (b :: bs) env) = (false, eval b env) :: backTo pos (starEach bs env) := by rw [he]; rfl

/-- a call of a built-in or a type by its name, by place -/
theorem c_call {b : Expr} {bs : List Expr} {fv : Value} (qf : Ev prog w A env h f fv) (hv : ∀ v, nt v = fv → v = fv) (hk : ∀ h, Looks (model prog w) h (keeperOf fv) Keeper.machine)
    (q : ∀ h2 tk', h.StaysIn h2 → WP prog w A (spliced (backTo pos (starEach (b :: bs) env))) (fun vs s₁ => wpAny (model prog w) A (PySem.call fv vs) Q E s₁) E ⟨h2, gs, dr, tk', os⟩)
    (hpl : (backTo pos (starEach (b :: bs) env)).any (·.1) = false := by rfl) (he : starEach (b :: bs) env = (false, eval b env) :: starEach bs env := by rfl)
    (hc : eval (.Call f (b :: bs) [] pos) env = (do callWith pos (← eval f env) [] (backTo pos (starEach (b :: bs) env)) (backToKw pos (keywordEach [] env))) := by rfl) :
    WP prog w A (eval (.Call f (b :: bs) [] pos) env) Q E ⟨h, gs, dr, tk, os⟩ :=
  .mk (by
    (with_reducible refine Call_ (qf.use h (stays_refl h) gs dr tk os _ _ fun v' h2 tk' e1 s2 => ?_).out hc)
    obtain rfl := hv _ e1
    refine callWith_of (P := fun _ => True) (by rw [hpl]; rfl) (fun h _ => ⟨_, .inr (.inl rfl), hk h⟩) ?_
    have z := (q h2 tk' s2).out
    rw [bt_cons he] at z ⊢
    exact evalArgs_plain (wpAny_mono z (fun vs s' y => ⟨trivial, y⟩) fun _ _ y => y))
theorem hv_bi {id : String} : ∀ v, nt v = .builtin id → v = .builtin id := fun v h => by cases v <;> simp [nt] at h; rw [h]
theorem hv_ty {id : String} : ∀ v, nt v = .type id → v = .type id := fun v h => by cases v <;> simp [nt] at h; rw [h]
theorem c_bi {b : Expr} {bs : List Expr} {id : String} (qf : Ev prog w A env h f (.builtin id))
    (q : ∀ h2 tk', h.StaysIn h2 → WP prog w A (spliced (backTo pos (starEach (b :: bs) env))) (fun vs s₁ => wpAny (model prog w) A (PySem.call (.builtin id) vs) Q E s₁) E ⟨h2, gs, dr, tk', os⟩)
    (hpl : (backTo pos (starEach (b :: bs) env)).any (·.1) = false := by rfl) (he : starEach (b :: bs) env = (false, eval b env) :: starEach bs env := by rfl)
    (hc : eval (.Call f (b :: bs) [] pos) env = (do callWith pos (← eval f env) [] (backTo pos (starEach (b :: bs) env)) (backToKw pos (keywordEach [] env))) := by rfl) :
    WP prog w A (eval (.Call f (b :: bs) [] pos) env) Q E ⟨h, gs, dr, tk, os⟩ := c_call qf hv_bi (fun _ => Looks.of_pure rfl) q hpl he hc
theorem c_ty {b : Expr} {bs : List Expr} {id : String} (qf : Ev prog w A env h f (.type id))
    (q : ∀ h2 tk', h.StaysIn h2 → WP prog w A (spliced (backTo pos (starEach (b :: bs) env))) (fun vs s₁ => wpAny (model prog w) A (PySem.call (.type id) vs) Q E s₁) E ⟨h2, gs, dr, tk', os⟩)
    (hpl : (backTo pos (starEach (b :: bs) env)).any (·.1) = false := by rfl) (he : starEach (b :: bs) env = (false, eval b env) :: starEach bs env := by rfl)
    (hc : eval (.Call f (b :: bs) [] pos) env = (do callWith pos (← eval f env) [] (backTo pos (starEach (b :: bs) env)) (backToKw pos (keywordEach [] env))) := by rfl) :
    WP prog w A (eval (.Call f (b :: bs) [] pos) env) Q E ⟨h, gs, dr, tk, os⟩ := c_call qf hv_ty (fun _ => Looks.of_pure rfl) q hpl he hc
/-- a call of a function object -/
theorem c_fn {b : Expr} {bs : List Expr} {a : Addr} (qf : Ev prog w A env h f (.ref a))
    (q : ∀ h2 tk', h.StaysIn h2 → WP prog w A (spliced (backTo pos (starEach (b :: bs) env))) (fun vs s₁ => FnAt a s₁.heap ∧ wpAny (model prog w) A (PySem.call (.ref a) vs) Q E s₁) E ⟨h2, gs, dr, tk', os⟩)
    (hpl : (backTo pos (starEach (b :: bs) env)).any (·.1) = false := by rfl) (he : starEach (b :: bs) env = (false, eval b env) :: starEach bs env := by rfl)
    (hc : eval (.Call f (b :: bs) [] pos) env = (do callWith pos (← eval f env) [] (backTo pos (starEach (b :: bs) env)) (backToKw pos (keywordEach [] env))) := by rfl) :
    WP prog w A (eval (.Call f (b :: bs) [] pos) env) Q E ⟨h, gs, dr, tk, os⟩ :=
  .mk (by
    (with_reducible refine Call_ (qf.use h (stays_refl h) gs dr tk os _ _ fun v' h2 tk' e1 s2 => ?_).out hc)
    obtain rfl := nt_ref e1
    refine callWith_of (P := FnAt a) (by rw [hpl]; rfl) keeps_F ?_
    have z := (q h2 tk' s2).out
    rw [bt_cons he] at z ⊢
    exact evalArgs_plain z)
theorem c_fn0 {a : Addr} (qf : Ev prog w A env h f (.ref a)) (hf : FnAt a h) (q : ∀ h2 tk', h.StaysIn h2 → WP prog w A (PySem.call (.ref a) []) Q E ⟨h2, gs, dr, tk', os⟩)
    (hc : eval (.Call f [] [] pos) env = (do callWith pos (← eval f env) [] (backTo pos (starEach [] env)) (backToKw pos (keywordEach [] env))) := by rfl) :
    WP prog w A (eval (.Call f [] [] pos) env) Q E ⟨h, gs, dr, tk, os⟩ :=
  .mk (by
    (with_reducible refine Call_ (qf.use h (stays_refl h) gs dr tk os _ _ fun v' h2 tk' e1 s2 => ?_).out hc)
    obtain rfl := nt_ref e1
    obtain ⟨oc, od, fd, sl, e⟩ := hf
    exact callWith_F0 ⟨oc, od, fd, sl, s2 _ _ e⟩ (q h2 tk' s2).out)
/-- a pure argument, then the rest -/
theorem sp_p {b : Expr} {bs : List Expr} {R : List Value → Shared → Prop} (q : Ev prog w A env h b v) (k : ∀ v' h2 tk', nt v' = v → h.StaysIn h2 → WP prog w A (spliced (backTo pos (starEach bs env))) (fun vs s₂ => R (v' :: vs) s₂) E ⟨h2, gs, dr, tk', os⟩)
    (he : starEach (b :: bs) env = (false, eval b env) :: starEach bs env := by rfl) : WP prog w A (spliced (backTo pos (starEach (b :: bs) env))) R E ⟨h, gs, dr, tk, os⟩ :=
  .mk (by (with_reducible refine spliced_more (q.use h (stays_refl h) gs dr tk os _ _ fun v' h2 tk' e1 s2 => ?_).out he); exact (k v' h2 tk' e1 s2).out)
/-- an argument that turns the heap, then the rest -/
theorem sp_i {b : Expr} {bs : List Expr} {R : List Value → Shared → Prop} {s : Shared} (q : WP prog w A (eval b env) (fun v s₁ => wpAny (model prog w) A (spliced (backTo pos (starEach bs env))) (fun vs s₂ => R (v :: vs) s₂) E s₁) E s)
    (he : starEach (b :: bs) env = (false, eval b env) :: starEach bs env := by rfl) : WP prog w A (spliced (backTo pos (starEach (b :: bs) env))) R E s :=
  .mk (by with_reducible exact spliced_more q.out he)
theorem sp_n {R : List Value → Shared → Prop} {s : Shared} (k : R [] s) : WP prog w A (spliced (backTo pos (starEach [] env))) R E s := .mk (by with_reducible exact spliced_none k)

/-- an int of the call's own list, by a written place -/
theorem Ev.item {k : Int} {kd : Nat} (S : St h₀ L h ns vs news) (q : Ev prog w A env h o (.ref D)) (hm : (D, listOf its n) ∈ news) (h0 : 0 ≤ k) (h1 : k < 2 ^ 63) (hx : its[k.toNat]? = some v) {u : Value} (hu : nt v = u) :
    Ev prog w A env h (.Subscript o (.Constant (.int k) kd p) p') u := fun hh s1 gs dr tk os Q E z => .mk (by
    (with_reducible refine Subscript_ (q.use hh s1 gs dr tk os _ _ fun v' h2 tk' e1 s2 => ?_).out)
    obtain rfl := nt_ref e1
    (with_reducible refine wpAny_Constant_int ?_)
    have hL := PySem.IsL.isList (n := n) (((S.grow s1).grow s2).get hm)
    exact tail_any hL.typeIs slot_list_getitem.lookup (wpAny_getItem_list hL h0 h1 hx (z _ _ _ hu s2)) (by with_unfolding_all rfl))

/-- a new list of values -/
theorem c_newlist {ws : List Value} (S : St h₀ L h ns vs news) (k : ∀ D h' tk', St h₀ L h' ns vs ((D, listOf ws.toArray 0) :: news) → h.StaysIn h' → (∀ p ∈ news, p.1 < D) → Q (.ref D) ⟨h', gs, dr, tk', os⟩) (hz : ws.length ≤ 16777216) :
    WP prog w A (newList ws) Q E ⟨h, gs, dr, tk, os⟩ := S.elim fun m F back => .mk (by
    refine wpAny_newObj_type ?_ (by show ws.toArray.size ≤ sizeLine; rw [List.size_toArray, sizeLine_eq]; exact hz)
    have lt : ∀ p ∈ news, p.1 < h.objs.size := fun p hp => Heap.lt_size (S.nw p hp).1
    exact k _ _ _ (back _ _ (F.push _) (S.nw.push F _) (nd_cons S.nd lt)) (fun b o' e => Heap.get?_push_of_some _ e) lt)

/-- list.append, said as a statement -/
theorem x_append (S : St h₀ L h ns vs news) (qo : Ev prog w A env h o (.ref D)) (qe : Ev prog w A env h e v) {nw : Value → List (Addr × Obj)} (sel : ∀ v', Sel D (listOf its n) (listOf (its.push v') (n + 1)) news (nw v')) (hz : its.size ≤ 16777216)
    (k : ∀ v' h' tk', nt v' = v → St h₀ L h' ns vs (nw v') → WP prog w A (execs rest env) QF E ⟨h', gs, dr, tk', os⟩)
    (hi : interactive env = false) (he : starEach [e] env = [(false, eval e env)] := by rfl)
    (hc : eval (.Call (.Attribute o "append" p) [e] [] p') env = (do
        let ov ← eval o env
        standAt p.atName
        let __x ← holding [ov] (getMethod ov "append" (do return (← importBound o env).getD true))
        match __x with
          | (f, first) => callWith p' f first (backTo p' (starEach [e] env)) []) := by rfl)
    (hs : swapsWith (.Call (.Attribute o "append" p) [e] [] p') none p2.line env = pure false := by rfl) :
    WP prog w A (execs (.Expr (.Call (.Attribute o "append" p) [e] [] p') p2 :: rest) env) QF E ⟨h, gs, dr, tk, os⟩ :=
  x_cons (.mk (by
    (with_reducible refine wpAny_Expr_any ?_ hi hs)
    (with_reducible refine MethodCall_ (qo.use h (stays_refl h) gs dr tk os _ _ fun v' h2 tk' e1 s2 => ?_).out hc)
    obtain rfl := nt_ref e1
    have S2 := S.grow s2
    have hm := (sel .none).mem
    refine kl_method S2.nw hm PySem.F.slot_list_append PySem.F.type_list_append ?_
    refine callWith_of (P := fun _ => True) (by rw [he]; rfl) (fun h _ => ⟨_, .inr (.inl rfl), Looks.of_pure rfl⟩) ?_
    rw [he]
    refine evalArgs_plain (spliced_cons (qe.use h2 s2 gs dr tk' os _ _ fun v' h3 tk3 e3 s3 => ?_).out)
    refine spliced_nil ⟨trivial, ?_⟩
    have S3 := S2.grow s3
    refine S3.elim fun m F back => ?_
    have ho := S3.get hm
    exact append_at ho (fun h' hs ho' => (k v' h' tk3 e3 (by
      obtain ⟨pre, post, e1, e2, a, b⟩ := ((sel v').upd S3.nd).split
      rw [e2]
      rw [e1] at S3
      have z := S3.nw (D, listOf its n) (List.mem_append.mpr (.inr (.head _)))
      refine back _ _ (F.change hs z.2.1 z.2.2) (news_set S3.nw a b hs ho') ?_
      rw [← e2, (sel v').addrs, e1]
      exact S3.nd)).out) (hsz := by rw [sizeLine_eq]; exact hz)))

/-- «o != []» of a list of ints -/
theorem Ts.neNil {xs : List Value} {is : List Int} (C : Cx w loose mean mg mb A env outer A₀ base h₀ L lv) (S : St h₀ L h ns vs news) (q : Ev prog w A env h o (.ref D)) (hm : (D, listOf xs.toArray n) ∈ news) (hi : IntsAre xs is) :
    Ts prog w A env h (.Compare o [.NotEq] [.List [] p] p') (!decide (is = [])) := fun hh s1 gs dr tk os Q E z => .mk (by
  (with_reducible refine wpAny_isTrue_Compare1 (q.use hh s1 gs dr tk os _ _ fun v' h2 tk' e1 s2 => ?_).out (bim rfl rfl _))
  obtain rfl := nt_ref e1
  have S2 := (S.grow s1).grow s2
  refine List_ (spliced_none ?_)
  refine (c_newlist (prog := prog) (w := w) (A := A) S2 (fun D' h' tk' S' st l => ?_) (Nat.zero_le _)).out
  refine ne_intsK (PySem.IsL.isList (n := n) (S'.get (.tail _ hm))) hi (PySem.IsL.isList (n := 0) (S'.get (.head _))) IntsAre.nil (by have := C.units; unfold cLine; omega) ?_
  exact wpAny_truthy_bool (z _ _ (stays_trans s2 st)))

/-- x = o.pop(0) -/
theorem x_pop0 {y : Value} {ys : List Value} {kd : Nat} {p3 p4 p5 : Pos} (N : FnEnv env L ns gl) (S : St h₀ L h ns vs news) (qo : Ev prog w A env h o (.ref D)) (sel : Sel D (listOf (y :: ys).toArray n) (listOf ys.toArray (n + 1)) news news') (pt : Pt ns vs x (some (nt y)) vs') (hz : ys.length < 1000)
    (k : ∀ h' tk', St h₀ L h' ns vs' news' → WP prog w A (execs rest env) QF E ⟨h', gs, dr, tk', os⟩)
    (he : starEach [(.Constant (.int 0) kd p3 : Expr)] env = [(false, eval (.Constant (.int 0) kd p3) env)] := by rfl)
    (hc : eval (.Call (.Attribute o "pop" p) [.Constant (.int 0) kd p3] [] p') env = (do
        let ov ← eval o env
        standAt p.atName
        let __x ← holding [ov] (getMethod ov "pop" (do return (← importBound o env).getD true))
        match __x with
          | (f, first) => callWith p' f first (backTo p' (starEach [.Constant (.int 0) kd p3] env)) []) := by rfl)
    (hs : swapsWith (.Call (.Attribute o "pop" p) [.Constant (.int 0) kd p3] [] p') (some (.Name x p4)) p5.line env = pure false := by rfl) :
    WP prog w A (execs (.Assign [.Name x p4] (.Call (.Attribute o "pop" p) [.Constant (.int 0) kd p3] [] p') p5 :: rest) env) QF E ⟨h, gs, dr, tk, os⟩ :=
  x_cons (.mk (by
    (with_reducible refine wpAny_Assign_Name ?_ hs)
    (with_reducible refine MethodCall_ (qo.use h (stays_refl h) gs dr tk os _ _ fun v' h2 tk' e1 s2 => ?_).out hc)
    obtain rfl := nt_ref e1
    have S2 := S.grow s2
    have hm := sel.mem
    refine kl_method S2.nw hm PySem.F.slot_list_pop PySem.F.type_list_pop ?_
    refine callWith_of (P := fun _ => True) (by rw [he]; rfl) (fun h _ => ⟨_, .inr (.inl rfl), Looks.of_pure rfl⟩) ?_
    rw [he]
    refine evalArgs_plain (spliced_cons (wpAny_Constant_int (i := 0) (k := kd) (pos := p3) ?_))
    refine spliced_nil ⟨trivial, ?_⟩
    have ho := S2.get hm
    have hk : seqIndex? 0 (y :: ys).toArray.size = some 0 := by
      rw [List.size_toArray, List.length_cons]
      unfold seqIndex?
      simp
    have hz' : (y :: ys).toArray.size ≤ sizeLine := by rw [sizeLine_eq, List.size_toArray, List.length_cons]; omega
    refine call_meets PySem.F.slot_list_pop ⟨_, ho, rfl⟩ PySem.F.entry_list_pop (PySem.F.args_list_pop_2 _ _) (PySem.MeetsSeq.list_pop_at D _ n 0 _ _ y (by rfl) hk (by simp) hz') ⟨ho, ?_⟩
    have S3 := S2.seq sel (fun xs => xs.eraseIdxIfInBounds 0) (by
      have := kl_erase [] ys y
      simpa using this) (by simp)
    exact (st_loc (prog := prog) (w := w) (A := A) (E := E) N S3 pt fun h' tk3 S' => (k h' tk3 S').out).out))

/-- o[k] = e, k a written place of the call's own list -/
theorem x_setitem {kd : Nat} {k : Int} {p3 p4 : Pos} (S : St h₀ L h ns vs news) (qe : Ev prog w A env h e v) (qo : Ev prog w A env h o (.ref D)) {nw : Value → List (Addr × Obj)} (sel : ∀ v', Sel D (listOf its n) (listOf (its.setIfInBounds k.toNat v') n) news (nw v')) (h0 : 0 ≤ k) (h1 : k < 2 ^ 63) (hk : k < its.size)
    (z : ∀ v' h' tk', nt v' = v → St h₀ L h' ns vs (nw v') → WP prog w A (execs rest env) QF E ⟨h', gs, dr, tk', os⟩)
    (hs : swapsWith e (some (.Subscript o (.Constant (.int k) kd p3) p4)) p.line env = pure false := by rfl) :
    WP prog w A (execs (.Assign [.Subscript o (.Constant (.int k) kd p3) p4] e p :: rest) env) QF E ⟨h, gs, dr, tk, os⟩ :=
  x_cons (.mk (by
    (with_reducible refine wpAny_Assign_Subscript (qe.use h (stays_refl h) gs dr tk os _ _ fun v' h2 tk' e1 s2 => (qo.use h2 s2 gs dr tk' os _ _ fun ov h3 tk3 e3 s3 => ?_).out).out hs)
    obtain rfl := nt_ref e3
    (with_reducible refine wpAny_Constant_int ?_)
    have S3 := (S.grow s2).grow s3
    exact ki_setAt (S3.get (sel v').mem) h0 h1 hk (z v' _ _ e1 (S3.seq (sel v') (fun xs => xs.setIfInBounds k.toNat v') rfl (by simp))).out))

/-- what a turn of a loop hands on -/
def LK (prog : Program) (w : World) (A : Around) (gs : Array GenState) (dr : Drawn) (os : OsState) (I : Nat → Heap → Prop) (n : Nat) (rest : List Stmt) (env : Env) (QF : Flow → Shared → Prop) (E : Value → Shared → Prop) : Flow → Shared → Prop
  | .next, s => ∃ m h' tk', m < n ∧ I m h' ∧ s = ⟨h', gs, dr, tk', os⟩
  | .cont, s => ∃ m h' tk', m < n ∧ I m h' ∧ s = ⟨h', gs, dr, tk', os⟩
  | .brk, s => wpAny (model prog w) A (execs rest env) QF E s
  | .ret v, s => QF (.ret v) s
theorem LK.go {I : Nat → Heap → Prop} {n m : Nat} (hm : m < n) (q : I m h) : LK prog w A gs dr os I n rest env QF E .next ⟨h, gs, dr, tk, os⟩ := ⟨m, h, tk, hm, q, rfl⟩

theorem x_while (I : Nat → Heap → Prop) {n : Nat} (i0 : I n h)
    (step : ∀ n h (tk : Nat), I n h → ∃ c, Ts prog w A env h t c ∧ (c = true → ∀ E' h2 tk2, h.StaysIn h2 → WP prog w A (execs b1 env) (LK prog w A gs dr os I n rest env QF E) E' ⟨h2, gs, dr, tk2, os⟩) ∧
      (c = false → ∀ h2 tk2, h.StaysIn h2 → WP prog w A (execs rest env) QF E ⟨h2, gs, dr, tk2, os⟩)) :
    WP prog w A (execs (.While t b1 [] p :: rest) env) QF E ⟨h, gs, dr, tk, os⟩ := by
  refine x_cons (.mk (wpAny_While ?_))
  refine codeAny_whileLoop (fun n s => ∃ h tk, I n h ∧ s = ⟨h, gs, dr, tk, os⟩) ?_ n ⟨h, tk, i0, rfl⟩
  rintro n s ⟨h, tk, i, rfl⟩
  obtain ⟨c, ts, k1, k2⟩ := step n h tk i
  refine (ts.use h (stays_refl h) gs dr tk os _ _ fun h2 tk2 s2 => ?_).out
  cases c with
  | true =>
    rw [if_pos rfl]
    refine wpAny_mono (k1 rfl _ h2 tk2 s2).out (fun f s3 z => ?_) fun _ _ x => x
    cases f with
    | next => obtain ⟨m, h', tk', a, b, c⟩ := z; exact ⟨m, a, h', tk', b, c⟩
    | cont => obtain ⟨m, h', tk', a, b, c⟩ := z; exact ⟨m, a, h', tk', b, c⟩
    | brk => exact z
    | ret v => exact z
  | false =>
    rw [if_neg Bool.false_ne_true]
    exact wpAny_execs_nil (k2 rfl h2 tk2 s2).out

/-- a built-in's call that turns nothing -/
theorem Ev.call {b : Expr} {bs : List Expr} {fv : Value} {ws : List Value} (qf : Ev prog w A env h f fv) (hv : ∀ v, nt v = fv → v = fv) (hk : ∀ h, Looks (model prog w) h (keeperOf fv) Keeper.machine) (qa : EvL prog w A env h (b :: bs) ws)
    (k : ∀ ws' h1 gs dr tk os (Q E : Value → Shared → Prop), h.StaysIn h1 → ws'.map nt = ws → (∀ v' h2 tk', nt v' = v → h1.StaysIn h2 → Q v' ⟨h2, gs, dr, tk', os⟩) → WP prog w A (PySem.call fv ws') Q E ⟨h1, gs, dr, tk, os⟩)
    (hpl : (backTo pos (starEach (b :: bs) env)).any (·.1) = false := by rfl) (he : starEach (b :: bs) env = (false, eval b env) :: starEach bs env := by rfl)
    (hc : eval (.Call f (b :: bs) [] pos) env = (do callWith pos (← eval f env) [] (backTo pos (starEach (b :: bs) env)) (backToKw pos (keywordEach [] env))) := by rfl) :
    Ev prog w A env h (.Call f (b :: bs) [] pos) v := fun h1 s1 gs dr tk os Q E z => by
  refine c_call (qf.grow s1) hv hk (fun h2 tk' s2 => ?_) hpl he hc
  refine qa.use h2 (stays_trans s1 s2) gs dr tk' os pos _ _ fun ws' h3 tk3 e3 s3 => ?_
  exact (k ws' h3 gs dr tk3 os _ _ (stays_trans s1 (stays_trans s2 s3)) e3 fun v' h4 tk4 e4 s4 => z v' h4 tk4 e4 (stays_trans s2 (stays_trans s3 s4))).out
theorem map_nt1 {ws' : List Value} {a : Value} (h : ws'.map nt = [a]) : ∃ b, ws' = [b] ∧ nt b = a := by
  match ws', h with
  | [b], h => exact ⟨b, rfl, by simpa using h⟩
theorem map_nt2 {ws' : List Value} {a b : Value} (h : ws'.map nt = [a, b]) : ∃ a' b', ws' = [a', b'] ∧ nt a' = a ∧ nt b' = b := by
  match ws', h with
  | [a', b'], h => exact ⟨a', b', rfl, by simp at h; exact h.1, by simp at h; exact h.2⟩
/-- bytes(o) of a list of ints -/
theorem Ev.bytesOf {is : List Int} (C : Cx w loose mean mg mb A env outer A₀ base h₀ L lv) (S : St h₀ L h ns vs news) (qf : Ev prog w A env h f (.type "bytes")) (q : Ev prog w A env h o (.ref D)) (hm : (D, listOf its n) ∈ news) (hi : IntsAre its.toList is) (hr : ∀ i ∈ is, 0 ≤ i ∧ i < 256) (hz : is.length ≤ 16777216)
    (he : starEach [o] env = [(false, eval o env)] := by rfl)
    (hc : eval (.Call f [o] [] pos) env = (do callWith pos (← eval f env) [] (backTo pos (starEach [o] env)) (backToKw pos (keywordEach [] env))) := by rfl) :
    Ev prog w A env h (.Call f [o] [] pos) (.bytes (byteArr is) 0) :=
  Ev.call qf hv_ty (fun _ => Looks.of_pure rfl) (EvL.cons q EvL.nil he) (fun ws' h1 gs dr tk os Q E s1 e z => by
    obtain ⟨b, rfl, e'⟩ := map_nt1 e
    obtain rfl := nt_ref e'
    have hL := PySem.IsL.isList (n := n) ((S.grow s1).get hm)
    rw [← Array.toArray_toList (xs := its)] at hL
    exact .mk (call_bytes_ints hL hi hr (by rw [hi.length, sizeLine_eq]; exact hz) C.hand fun h' t k st => z _ _ _ rfl st)) (by rw [he]; rfl) he hc
/-- len(o) of bytes -/
theorem Ev.lenB {a : Array UInt8} (qf : Ev prog w A env h f (.builtin "len")) (q : Ev prog w A env h o (.bytes a 0)) (hz : a.size ≤ 1099511627776)
    (he : starEach [o] env = [(false, eval o env)] := by rfl)
    (hc : eval (.Call f [o] [] pos) env = (do callWith pos (← eval f env) [] (backTo pos (starEach [o] env)) (backToKw pos (keywordEach [] env))) := by rfl) :
    Ev prog w A env h (.Call f [o] [] pos) (.int a.size 0) :=
  Ev.call qf hv_bi (fun _ => Looks.of_pure rfl) (EvL.cons q EvL.nil he) (fun ws' h1 gs dr tk os Q E s1 e z => by
    obtain ⟨b, rfl, e'⟩ := map_nt1 e
    obtain ⟨t, rfl⟩ := nt_bytes e'
    exact .mk (len_bytes hz (z _ _ _ rfl (stays_refl h1)))) (by rw [he]; rfl) he hc
/-- x = [..] -/
theorem x_list {es : List Expr} {ws : List Value} {vsD : Addr → List (Option Value)} {p4 : Pos} (N : FnEnv env L ns gl) (S : St h₀ L h ns vs news) (q : EvL prog w A env h es ws) (pt : ∀ D, Pt ns vs x (some (.ref D)) (vsD D)) (hz : ws.length ≤ 16777216)
    (k : ∀ D (ws' : List Value) h' tk', ws'.map nt = ws → St h₀ L h' ns (vsD D) ((D, listOf ws'.toArray 0) :: news) → (∀ p ∈ news, p.1 < D) → WP prog w A (execs rest env) QF E ⟨h', gs, dr, tk', os⟩)
    (hs : swapsWith (.List es p') (some (.Name x p4)) p.line env = pure false := by rfl) : WP prog w A (execs (.Assign [.Name x p4] (.List es p') p :: rest) env) QF E ⟨h, gs, dr, tk, os⟩ :=
  x_cons (.mk (by
    (with_reducible refine wpAny_Assign_Name (List_ (q.use h (stays_refl h) gs dr tk os _ _ _ fun ws' h2 tk' e1 s2 => ?_).out) hs)
    refine (c_newlist (prog := prog) (w := w) (A := A) (S.grow s2) (fun D h' tk' S' st l => ?_) ?_).out
    · exact (st_loc (prog := prog) (w := w) (A := A) (E := E) N S' (pt D) fun h3 tk3 S3 => (k D ws' h3 tk3 e1 S3 l).out).out
    · rw [← e1, List.length_map] at hz; exact hz))
end
end Mine
end
section
open PySem PySem.Spec PySem.Calls PySem.W PyProof.Rows
set_option maxRecDepth 100000
set_option linter.unusedVariables false
namespace Mine

theorem lookup_rev {ps : List (Str × Value)} (nd : (ps.map (·.1)).Nodup) (x : Str) : ps.reverse.lookup x = ps.lookup x := by
  induction ps with
  | nil => rfl
  | cons p r ih =>
    have h := List.nodup_cons.mp nd
    rw [List.reverse_cons, List.lookup_append, ih h.2, List.lookup_cons]
    obtain ⟨a, b⟩ := p
    by_cases hx : x = a
    · subst hx
      have : r.lookup x = none := by
        rw [List.lookup_eq_none_iff]
        intro q hq
        simp only [bne_iff_ne, ne_eq]
        exact fun e => h.1 (List.mem_map.mpr ⟨q, hq, e.symm⟩)
      simp [this]
    · have : (x == a) = false := beq_eq_false_iff_ne.mpr hx
      simp [this, List.lookup_cons]
theorem frv_none : ∀ (os : List Str) (x : Str), frv os (os.map fun _ => none) x = none
  | [], _ => rfl
  | o :: os, x => by simp [frv, frv_none os x]
theorem hvs_of : ∀ {ps : List Str} {args : List Value} (nd : ps.Nodup) (hl : ps.length = args.length) (others : List Str) (x : Str),
    (((ps.zip args).reverse).lookup x).map nt = frv (ps ++ others) (args.map (fun v => some (nt v)) ++ others.map fun _ => none) x := by
  intro ps args nd hl others x
  rw [lookup_rev (by rw [List.map_fst_zip (by omega)]; exact nd)]
  induction ps generalizing args with
  | nil =>
    cases args with
    | nil => simp [frv_none]
    | cons => simp at hl
  | cons p r ih =>
    cases args with
    | nil => simp at hl
    | cons a as =>
      have h := List.nodup_cons.mp nd
      simp only [List.zip_cons_cons, List.lookup_cons, List.cons_append, List.map_cons, frv]
      by_cases hx : x = p
      · simp [hx]
      · have : (x == p) = false := beq_eq_false_iff_ne.mpr hx
        simp only [this, hx, if_false]
        exact ih h.2 (by simpa using hl)
theorem fnEnv_of {qual : Str} {scope : Scope} {f : Addr} {cdv : Value} {cl : List (Str × Addr)} {ns gl : List Str} (hk : scope.kind = .function) (nd : ns.Nodup) (loc : ∀ x ∈ ns, scope.names.lookup x = some .local)
    (glo : ∀ x ∈ gl, scope.names.lookup x = some .globalImplicit) (dbg : ∀ x ∈ ns ++ gl, (x == ("__debug__" : Str)) = false) (L' : Addr) : FnEnv (envX qual scope L' f cdv cl) L' ns gl :=
  ⟨hk, rfl, rfl, rfl, rfl, nd, loc, glo, dbg⟩
section
variable {w : World} {loose : List Str} {mean : ExcName → Option Value} {mg mb : Str → Option Value} {A A₀ : Around} {env : Env} {outer : List Env} {base h₀ h : Heap} {L : Addr} {lv : Nat} {ns gl : List Str} {vs vs' : List (Option Value)} {news news' : List (Addr × Obj)}
theorem K_get {f : Addr} {fo : Obj} (C : Cx w loose mean mg mb A env outer A₀ base h₀ L lv) (S : St h₀ L h ns vs news) (e : (hd.heap_39 w.params).lookup f = some fo) : h.get? f = some fo := S.elim fun m F _ => C.X.keeps F.keep _ _ e
theorem K_code {cd : Value} {q : Str} (C : Cx w loose mean mg mb A env outer A₀ base h₀ L lv) (S : St h₀ L h ns vs news) (e : codeIn (hd.heap_39 w.params) cd q = true) : h.CodeRec cd q := S.elim fun m F _ => codeRec_of (C.X.keeps F.keep) e
end

theorem fill : PySem.Challenge.rw_ae6020_01 = PySem.Challenge.rw_ae6020_01 ∧ hd.heap_39 = hd.heap_39 := by k_fill; exact ⟨rfl, rfl⟩

section
variable {prog : Program} {w : World} {loose : List Str} {mean : ExcName → Option Value} {mg mb : Str → Option Value} {A A₀ : Around} {env : Env} {outer : List Env} {base h₀ h : Heap} {L : Addr} {lv : Nat} {ns gl : List Str} {vs vs' : List (Option Value)} {news news' : List (Addr × Obj)}
variable {gs : Array GenState} {dr : Drawn} {tk : Nat} {os : OsState} {Q : Value → Shared → Prop} {E : Value → Shared → Prop} {rest : List (Addr × Obj)}

/-- what a draw is: a list of a list of ints that are 0 or more, and a seed -/
structure Draw (d l : Addr) (nw : List (Addr × Obj)) : Prop where
  is : ∃ (xs : List Value) (is : List Int) (seed : Int) (t : Tok) (n1 n2 : Nat), nw = [(d, listOf #[.ref l, .int seed t] n1), (l, listOf xs.toArray n2)] ∧ IntsAre xs is ∧ (∀ i ∈ is, 0 ≤ i) ∧ is.length ≤ 63 ∧ 0 ≤ seed ∧ seed < 2147483647

theorem mulOk {x y : Int} (h : y.natAbs < 2 ^ 64) : IntMulOk x y := PySem.IntMulOk.of_right (PySem.intBits_le_64 (by omega) (by omega))
theorem mulOkL {x y : Int} (h : x.natAbs < 2 ^ 64) : IntMulOk x y := PySem.IntMulOk.of_left (PySem.intBits_le_64 (by omega) (by omega))

theorem take_ok {d l : Addr} {many : Int} {u : Tok} {dl : List (Addr × Obj)} (C : Cx w loose mean mg mb A env outer A₀ base h₀ L (lv + 1))
    (S : St h₀ L h ns vs (dl ++ rest)) (D : Draw d l dl) (hm : 0 < many)
    (k : ∀ r t h' tk' dl', Draw d l dl' → 0 ≤ r → r < many → St h₀ L h' ns vs (dl' ++ rest) → Q (.int r t) ⟨h', gs, dr, tk', os⟩) : WP prog w A (PySem.call (.ref 345) [.ref d, .int many u]) Q E ⟨h, gs, dr, tk, os⟩ := by
  obtain ⟨xs, is, seed, t, n1, n2, rfl, hi, hp, hl, hs0, hs1⟩ := D.is
  refine call_fn (args := ⟨[.ref d, .int many u], []⟩) (binds := [(Str.ofString "draw", .ref d), (Str.ofString "many", .int many u)]) (Rel := fun v nw => ∃ r t, v = .int r t ∧ 0 ≤ r ∧ r < many ∧ Draw d l nw) (ns' := [Str.ofString "draw", Str.ofString "many", Str.ofString "found"]) (gl' := []) (vs' := [some (.ref d), some (.int many 0), none]) C S (K_get C S (by k_is)) rfl (K_code C S (by k_is)) (BindsTo.of_eq rfl) (locs rfl) (by decide)
    (fnEnv_of rfl (by decide +kernel) (by decide +kernel) (by decide +kernel) (by decide +kernel)) (hvs_of (ps := [Str.ofString "draw", Str.ofString "many"]) (args := [.ref d, .int many u]) (by decide +kernel) rfl [Str.ofString "found"]) ?_ ?_
  · intro g L' h₁ tk₁ env' A' he hA C' N' S' kp Q' E' ret
    clear he hA kp
    refine x_if (Ts.neNil C' S' (Ev.item S' (Ev.loc N' S' .hd) (.head _) (by decide) (by decide) rfl rfl) (.tail _ (.head _)) hi) (fun hc h2 tk2 s2 => ?_) fun hc h2 tk2 s2 => ?_
    · have S2 := S'.grow s2
      cases hi with
      | nil => simp at hc
      | cons n tn hi' =>
        refine x_pop0 N' S2 (Ev.item S2 (Ev.loc N' S2 .hd) (.head _) (by decide) (by decide) rfl rfl) (.tl .hd) (.tl (.tl .hd)) (by have := hi'.length; simp at hl; omega) fun h3 tk3 S3 => ?_
        refine x_nil ?_
        refine (x_ret (Ev.mod (Ev.loc N' S3 (.tl (.tl .hd))) (Ev.loc N' S3 (.tl .hd)) hm) fun v h4 tk4 e4 s4 => ?_).out
        obtain ⟨t4, rfl⟩ := nt_int e4
        refine ret _ _ _ _ _ _ (S3.grow s4) ⟨_, _, rfl, Int.emod_nonneg _ (by omega), Int.emod_lt_of_pos _ hm, ⟨⟨_, _, _, _, _, _, rfl, hi', fun i hi => hp i (.tail _ hi), by simp at hl; omega, hs0, hs1⟩⟩⟩
    · have S2 := S'.grow s2
      refine x_setitem S2 (Ev.mod (Ev.mul (Ev.item S2 (Ev.loc N' S2 .hd) (.head _) (by decide) (by decide) rfl rfl) Ev.int (mulOk (by decide))) Ev.int (by decide)) (Ev.loc N' S2 .hd) (fun v' => .hd) (by decide) (by decide) (by simp) fun v' h3 tk3 e3 S3 => ?_
      obtain ⟨t3, rfl⟩ := nt_int e3
      refine x_assign N' S3 (Ev.div (Ev.item S3 (Ev.loc N' S3 .hd) (.head _) (by decide) (by decide) rfl rfl) Ev.int (by decide) (by decide)) (.tl (.tl .hd)) fun h4 tk4 S4 => ?_
      refine x_nil ?_
      refine (x_ret (Ev.mod (Ev.loc N' S4 (.tl (.tl .hd))) (Ev.loc N' S4 (.tl .hd)) hm) fun v h5 tk5 e5 s5 => ?_).out
      obtain ⟨t5, rfl⟩ := nt_int e5
      exact ret _ _ _ _ _ _ (S4.grow s5) ⟨_, _, rfl, Int.emod_nonneg _ (by omega), Int.emod_lt_of_pos _ hm, ⟨⟨_, _, _, _, _, _, rfl, hi, hp, hl, Int.emod_nonneg _ (by omega), Int.emod_lt_of_pos _ (by omega)⟩⟩⟩
  · rintro v h' tk' news' ⟨r, t, rfl, h0, h1, D'⟩ S'
    exact k r t h' tk' news' D' h0 h1 S'
end
end Mine
end
section
open PySem PySem.Spec PySem.Calls PySem.W PyProof.Rows
set_option maxRecDepth 100000
set_option linter.unusedVariables false
namespace Mine

/-- a number's octets, the least first, seven bits each -/
def vEnc (n : Nat) : List Int := if h : n < 128 then [(n : Int)] else ((n % 128 + 128 : Nat) : Int) :: vEnc (n / 128)
theorem vEnc_small {n : Nat} (h : n < 128) : vEnc n = [(n : Int)] := by rw [vEnc, dif_pos h]
theorem vEnc_big {n : Nat} (h : ¬ n < 128) : vEnc n = ((n % 128 + 128 : Nat) : Int) :: vEnc (n / 128) := by rw [vEnc, dif_neg h]
theorem vEnc_in (n : Nat) : ∀ i ∈ vEnc n, 0 ≤ i ∧ i < 256 := by
  induction n using Nat.strongRecOn with
  | ind n ih =>
    by_cases h : n < 128
    · rw [vEnc_small h]
      intro i hi
      rw [List.mem_singleton.mp hi]
      omega
    · rw [vEnc_big h]
      intro i hi
      rcases List.mem_cons.mp hi with rfl | hi
      · omega
      · exact ih (n / 128) (by omega) i hi
theorem vEnc_len (k n : Nat) (h : n < 128 ^ (k + 1)) : (vEnc n).length ≤ k + 1 := by
  induction k generalizing n with
  | zero => rw [vEnc_small (by simpa using h)]; simp
  | succ k ih =>
    by_cases h' : n < 128
    · rw [vEnc_small h']; simp
    · rw [vEnc_big h', List.length_cons]
      have := ih (n / 128) (by rw [Nat.pow_succ] at h; omega)
      omega

theorem ints_snoc {xs : List Value} {is : List Int} {i : Int} {t : Tok} (h : IntsAre xs is) : IntsAre (xs ++ [.int i t]) (is ++ [i]) := by
  induction h with
  | nil => exact .cons _ _ .nil
  | cons a b _ ih => exact .cons _ _ ih
theorem ints_push {xs : Array Value} {is : List Int} {i : Int} {t : Tok} (h : IntsAre xs.toList is) : IntsAre (xs.push (.int i t)).toList (is ++ [i]) := by
  rw [Array.toList_push]; exact ints_snoc h

section
variable {prog : Program} {w : World} {loose : List Str} {mean : ExcName → Option Value} {mg mb : Str → Option Value} {A A₀ : Around} {env : Env} {outer : List Env} {base h₀ h : Heap} {L : Addr} {lv : Nat} {ns gl : List Str} {vs vs' : List (Option Value)} {news news' : List (Addr × Obj)}
variable {gs : Array GenState} {dr : Drawn} {tk : Nat} {os : OsState} {Q : Value → Shared → Prop} {E : Value → Shared → Prop} {rest : List (Addr × Obj)}

theorem varint_ok {n : Nat} {u : Tok} (C : Cx w loose mean mg mb A env outer A₀ base h₀ L (lv + 1)) (S : St h₀ L h ns vs rest)
    (k : ∀ t h' tk', St h₀ L h' ns vs rest → Q (.bytes (byteArr (vEnc n)) t) ⟨h', gs, dr, tk', os⟩) (hn : n < 128 ^ 11) : WP prog w A (PySem.call (.ref 352) [.int n u]) Q E ⟨h, gs, dr, tk, os⟩ := by
  refine call_fn (foot := []) (rest := rest) (args := ⟨[.int n u], []⟩) (binds := [(Str.ofString "number", .int n u)]) (Rel := fun v nw => ∃ t, v = .bytes (byteArr (vEnc n)) t ∧ nw = []) (ns' := [Str.ofString "number", Str.ofString "row"]) (gl' := [Str.ofString "bytes"]) (vs' := [some (.int n 0), none]) C S (K_get C S (by k_is)) rfl (K_code C S (by k_is)) (BindsTo.of_eq rfl) (locs rfl) (by decide)
    (fnEnv_of rfl (by decide +kernel) (by decide +kernel) (by decide +kernel) (by decide +kernel)) (hvs_of (ps := [Str.ofString "number"]) (args := [.int n u]) (by decide +kernel) rfl [Str.ofString "row"]) ?_ ?_
  · intro g L' h₁ tk₁ env' A' he hA C' N' S' kp Q' E' ret
    have hi0 : PySem.interactive env' = false := by rw [he]; rfl
    clear he hA kp
    refine x_list (vsD := fun D => [some (.int n 0), some (.ref D)]) N' S' EvL.nil (fun D => .tl .hd) (by decide) fun D ws' h2 tk2 e2 S2 lt => ?_
    obtain rfl := List.map_eq_nil_iff.mp e2
    refine x_while (fun m h => ∃ xs is k, St g L' h [Str.ofString "number", Str.ofString "row"] [some (.int m 0), some (.ref D)] [(D, listOf xs k)] ∧ IntsAre xs.toList is ∧ (∀ i ∈ is, 0 ≤ i ∧ i < 256) ∧ is ++ vEnc m = vEnc n) (n := n) ⟨#[], [], 0, S2, .nil, by simp, by simp⟩ fun m h3 tk3 ⟨xs, is, k, S3, hi, hr, he⟩ => ?_
    have hlen := vEnc_len 10 n hn
    have hl : is.length + (vEnc m).length = (vEnc n).length := by rw [← he, List.length_append]
    have hxs : xs.size = is.length := by rw [← hi.length, Array.length_toList]
    refine ⟨_, Ts.gt (Ev.loc N' S3 .hd) Ev.int, fun hc E' h4 tk4 s4 => ?_, fun hc h4 tk4 s4 => ?_⟩
    · have S4 := S3.grow s4
      have hb : ¬ m < 128 := by simp at hc; omega
      refine x_append S4 (Ev.loc N' S4 (.tl .hd)) (Ev.add (Ev.mod (Ev.loc N' S4 .hd) Ev.int (by decide)) Ev.int) (nw := fun v' => [(D, listOf (xs.push v') (k + 1))]) (fun v' => .hd) (by omega) (fun v' h5 tk5 e5 S5 => ?_) hi0
      obtain ⟨t5, rfl⟩ := nt_int e5
      refine x_assign N' S5 (Ev.div (Ev.loc N' S5 .hd) Ev.int (by decide) (by decide)) .hd fun h6 tk6 S6 => x_nil ?_
      refine LK.go (m := m / 128) (by omega) ⟨_, _, _, S6, ints_push hi, ?_, ?_⟩
      · intro i hi
        rcases List.mem_append.mp hi with hi | hi
        · exact hr i hi
        · rw [List.mem_singleton.mp hi]; omega
      · rw [← he, vEnc_big hb, List.append_assoc]
        simp
    · have S4 := S3.grow s4
      have hb : m < 128 := by simp at hc; omega
      refine x_append S4 (Ev.loc N' S4 (.tl .hd)) (Ev.loc N' S4 .hd) (nw := fun v' => [(D, listOf (xs.push v') (k + 1))]) (fun v' => .hd) (by omega) (fun v' h5 tk5 e5 S5 => ?_) hi0
      obtain ⟨t5, rfl⟩ := nt_int e5
      rw [vEnc_small hb] at he
      refine x_ret (Ev.bytesOf C' S5 (Ev.bi N' C' S5 (by k_is) (.head _) PyProof.Rows.Boot.«bytes» (by decide) rfl) (Ev.loc N' S5 (.tl .hd)) (.head _) (ints_push hi) (by rw [he]; exact vEnc_in n) (by rw [he]; omega)) fun v h6 tk6 e6 s6 => ?_
      obtain ⟨t6, rfl⟩ := nt_bytes e6
      rw [he]
      exact ret _ h6 tk6 _ _ [] ((S5.grow s6).drop) ⟨t6, rfl, rfl⟩
  · rintro v h' tk' news' ⟨t, rfl, rfl⟩ S'
    exact k t h' tk' S'
end
end Mine
end
section
open PySem PySem.Spec PySem.Calls PySem.W PyProof.Rows
set_option maxRecDepth 100000
set_option linter.unusedVariables false
namespace Mine

/-- a cell -/
abbrev cellO (v : Option Value) : Obj := { cls := .type "cell", data := .cell v }
def cellLed (a : Addr) : List (Option Value) → List (Addr × Obj)
  | [] => []
  | v :: r => (a, cellO v) :: cellLed (a + 1) r
def nones (names : List (Str × NameKind)) : List (Option Value) := (names.filter fun x => x.2 == .cell).map fun _ => none
theorem cellLed_ge {p : Addr × Obj} : ∀ {vs : List (Option Value)} {a : Addr}, p ∈ cellLed a vs → a ≤ p.1
  | [], _, h => nomatch h
  | v :: r, a, h => by
    rcases List.mem_cons.mp h with rfl | h
    · exact Nat.le_refl _
    · exact Nat.le_of_succ_le (cellLed_ge h)
theorem cellLed_nd : ∀ {vs : List (Option Value)} {a : Addr}, ((cellLed a vs).map (·.1)).Nodup
  | [], _ => List.nodup_nil
  | v :: r, a => List.nodup_cons.mpr ⟨fun h => by
      obtain ⟨p, hp, e⟩ := List.mem_map.mp h
      have g : a + 1 ≤ p.1 := cellLed_ge hp
      rw [e] at g
      exact Nat.lt_irrefl _ g, cellLed_nd⟩
theorem push_led : ∀ (names : List (Str × NameKind)) (h : Heap), ∀ p ∈ cellLed h.objs.size (nones names), (pushCells h names).get? p.1 = some p.2
  | [], h, p, hp => nomatch hp
  | (n, k) :: r, h, p, hp => by
    unfold pushCells
    by_cases hk : (k == NameKind.cell) = true
    · rw [if_pos hk]
      have e : nones ((n, k) :: r) = none :: nones r := by simp [nones, hk]
      rw [e] at hp
      rcases List.mem_cons.mp hp with rfl | hp
      · exact pushCells_keeps r _ _ _ (Heap.get?_push_size _ rfl)
      · exact push_led r (h.push _) p (by rw [Heap.size_push]; exact hp)
    · rw [if_neg hk]
      have e : nones ((n, k) :: r) = nones r := by simp [nones, hk]
      rw [e] at hp
      exact push_led r h p hp

section
variable {prog : Program} {w : World} {loose : List Str} {mean : ExcName → Option Value} {mg mb : Str → Option Value} {A A₀ : Around} {env : Env} {outer : List Env} {base h₀ h : Heap} {L : Addr} {lv : Nat} {ns gl ns' gl' : List Str} {vs vs' vs2 : List (Option Value)} {foot rest news news' nw nw2 : List (Addr × Obj)}
variable {gs : Array GenState} {dr : Drawn} {tk : Nat} {os : OsState} {x : Str} {c : Addr} {v u : Value} {p : Pos}

/-- a store into a cell -/
theorem st_cell {ov : Option Value} {Q : Unit → Shared → Prop} {E : Value → Shared → Prop} (hk : env.scope.kind = .function) (hl : env.kindOf x = some .cell) (hc : env.cells.lookup x = some c) (S : St h₀ L h ns vs news) (sel : Sel c (cellO ov) (cellO (some v)) news news')
    (k : ∀ h', St h₀ L h' ns vs news' → Q () ⟨h', gs, dr, tk, os⟩) : WP prog w A (storeName env x v) Q E ⟨h, gs, dr, tk, os⟩ := S.elim fun m F back => .mk (by
  have ho := S.get sel.mem
  unfold storeName
  simp only [hl, hk]
  refine wpAny_bind (wpAny_cellOf hc ?_)
  unfold cellSet
  refine wpAny_bind (wpAny_load ho ?_)
  refine wpAny_update ho (k _ ?_)
  obtain ⟨pre, post, e1, e2, a, b⟩ := (sel.upd S.nd).split
  have z := S.nw (c, cellO ov) sel.mem
  refine back _ _ (F.change (Heap.SameBut.update ..) z.2.1 z.2.2) ?_ (sel.addrs ▸ S.nd)
  subst e1 e2
  exact news_set S.nw a b (Heap.SameBut.update ..) (Heap.get?_update_self _ ho rfl))

/-- what stands of a name in a cell -/
structure CE (env : Env) (x : Str) (c : Addr) : Prop where
  at_ : env.kindOf x = some .cell ∨ env.kindOf x = some .free
  cell : env.cells.lookup x = some c
  dbg : (x == ("__debug__" : Str)) = false
  dic : (x == ("__classdict__" : Str)) = false
theorem Ev.cellH (hk : env.scope.kind = .function) (ce : CE env x c) (e : h.get? c = some (cellO (some v))) (hu : nt v = u) : Ev prog w A env h (.Name x p) u := fun h1 s1 gs dr tk os Q E k => by
  have ic : Heap.IsCell h1 c (some v) := ⟨_, s1 _ _ e, rfl⟩
  rcases ce.at_ with a | a
  · exact .mk (by with_reducible exact wpAny_Name (wpAny_loadName_cell hk a ce.cell ic (k _ _ _ hu (stays_refl h1))) ce.dbg)
  · exact .mk (by with_reducible exact wpAny_Name (wpAny_loadName_free hk a ce.cell ic (k _ _ _ hu (stays_refl h1)) ce.dic) ce.dbg)
theorem Ev.cell (hk : env.scope.kind = .function) (ce : CE env x c) (S : St h₀ L h ns vs news) (hm : (c, cellO (some v)) ∈ news) (hu : nt v = u) : Ev prog w A env h (.Name x p) u := Ev.cellH hk ce (S.get hm) hu

/-- how the parameters are laid -/
inductive Bd (env : Env) (ns : List Str) : List (Str × Value) → List (Option Value) → List (Addr × Obj) → List (Option Value) → List (Addr × Obj) → Prop
  | nil {us ls} : Bd env ns [] us ls us ls
  | loc {y z r us us1 ls us2 ls2} : Pt ns us y (some (nt z)) us1 → Bd env ns r us1 ls us2 ls2 → Bd env ns ((y, z) :: r) us ls us2 ls2
  | cel {y z r us d ov ls ls1 us2 ls2} : env.kindOf y = some .cell → env.cells.lookup y = some d → Sel d (cellO ov) (cellO (some z)) ls ls1 → Bd env ns r us ls1 us2 ls2 → Bd env ns ((y, z) :: r) us ls us2 ls2
theorem bindAll {binds : List (Str × Value)} (N : FnEnv env L ns gl) (B : Bd env ns binds vs nw vs2 nw2) (f : Str × Value → PUnit → Sem (ForInStep PUnit)) (hf : ∀ n v u, f (n, v) u = (do storeName env n v; pure (.yield ⟨⟩))) {Q : PUnit → Shared → Prop} {E : Value → Shared → Prop} :
    ∀ (h : Heap) (tk : Nat), St h₀ L h ns vs nw → (∀ h' tk', St h₀ L h' ns vs2 nw2 → Q ⟨⟩ ⟨h', gs, dr, tk', os⟩) → WP prog w A (forIn binds ⟨⟩ f) Q E ⟨h, gs, dr, tk, os⟩ := by
  induction B with
  | nil => intro h tk S k; exact .mk (by rw [List.forIn_nil]; exact wpAny_pure (k _ _ S))
  | loc pt _ ih =>
    intro h tk S k
    exact .mk (by
      rw [List.forIn_cons, hf]
      refine wpAny_bind (wpAny_bind (st_loc (prog := prog) (w := w) (A := A) (E := E) N S pt fun h' tk' S' => ?_).out)
      exact wpAny_pure (ih h' tk' S' k).out)
  | cel a b sel _ ih =>
    intro h tk S k
    exact .mk (by
      rw [List.forIn_cons, hf]
      refine wpAny_bind (wpAny_bind (st_cell (prog := prog) (w := w) (A := A) (E := E) N.kind a b S sel fun h' S' => ?_).out)
      exact wpAny_pure (ih h' _ S' k).out)

theorem frv_nones {ns : List Str} {x : Str} : frv ns (ns.map fun _ => none) x = none := frv_none ns x

variable {name qual : Str} {params : Arguments} {body : List Stmt} {scope : Scope} {cl : List (Str × Addr)} {dV kV doc pm cdv ct : Value} {an : Option Addr} {fo : Obj} {f : Addr} {args : Args} {binds : List (Str × Value)} {Rel : Value → List (Addr × Obj) → Prop}

/-- the frame of a call -/
abbrev envG (qual : Str) (scope : Scope) (L f : Addr) (cdv : Value) (cl : List (Str × Addr)) : Env := envX qual scope L f cdv (cellsFrom (L + 1) scope.names cl)

theorem newEnvG {Q : Env → Shared → Prop} {E : Value → Shared → Prop} (hk : scope.kind = .function) (foot : List (Addr × Obj)) (hfoot : ∀ p ∈ foot, h.get? p.1 = some p.2) (nd : (foot.map (·.1)).Nodup)
    (N : FnEnv (envG qual scope h.objs.size f cdv cl) h.objs.size ns gl)
    (B : Bd (envG qual scope h.objs.size f cdv cl) ns binds (ns.map fun _ => none) (cellLed (h.objs.size + 1) (nones scope.names) ++ foot) vs2 nw2)
    (hQ : ∀ h₁ tk', St (hideAll h (foot.map (·.1))) h.objs.size h₁ ns vs2 nw2 → (∀ b o, h.get? b = some o → b ∉ foot.map (·.1) → h₁.get? b = some o) → Q (envG qual scope h.objs.size f cdv cl) ⟨h₁, gs, dr, tk', os⟩) :
    WP prog w A (newFunctionEnv scope mainGlobals cl binds (qual ++ ".<locals>.") (some f) cdv none builtinsNs) Q E ⟨h, gs, dr, tk, os⟩ := .mk (by
  simp only [newFunctionEnv, Option.isSome_none, Bool.false_eq_true, if_false]
  refine wpAny_bind (wpAny_alloc ?_)
  refine wpAny_bind (wpAny_layCells _ (fun name kind cells => by cases hkc : kind == NameKind.cell <;> simp [hkc]) _ _ _ _ ?_)
  rw [show ({ heap := h.push { cls := .type "frame", data := .dict #[] }, gens := gs, drawn := dr, toks := tk, os := os } : Shared).heap.objs.size = h.objs.size + 1 from Heap.size_push ..]
  have keep0 : ∀ b o, h.get? b = some o → (pushCells (h.push { cls := .type "frame", data := .dict #[] }) scope.names).get? b = some o := fun b o e => pushCells_keeps _ _ b o (Heap.get?_push_of_some _ e)
  have S0 : St (hideAll h (foot.map (·.1))) h.objs.size (pushCells (h.push { cls := .type "frame", data := .dict #[] }) scope.names) ns (ns.map fun _ => none) (cellLed (h.objs.size + 1) (nones scope.names) ++ foot) := by
    have gn : ∀ a, h.objs.size ≤ a → (hideAll h (foot.map (·.1))).get? a = none := fun a ha => Heap.get?_none_of_le (Nat.le_trans (Nat.le_of_eq (hideAll_size _ _)) ha)
    refine ⟨⟨fun _ => none, ⟨(Heap.Ns.new h (.type "frame")).keeps (pushCells_keeps _ _), fun b o e => keep0 b o (of_hideAll _ e), Nat.le_of_eq (hideAll_size _ _)⟩, fun x => ?_⟩, fun p hp => ?_, ?_⟩
    · rw [frv_none]; rfl
    · rcases List.mem_append.mp hp with hp | hp
      · have g : h.objs.size + 1 ≤ p.1 := cellLed_ge hp
        exact ⟨push_led scope.names (h.push { cls := .type "frame", data := .dict #[] }) p (by rw [Heap.size_push]; exact hp), Nat.ne_of_gt g, gn _ (Nat.le_of_succ_le g)⟩
      · exact ⟨keep0 _ _ (hfoot p hp), Nat.ne_of_lt (Heap.lt_size (hfoot p hp)), hideAll_none _ (List.mem_map_of_mem hp)⟩
    · rw [List.map_append, List.nodup_append]
      refine ⟨cellLed_nd, nd, fun a ha b hb e => ?_⟩
      obtain ⟨p, hp, rfl⟩ := List.mem_map.mp ha
      obtain ⟨q, hq, rfl⟩ := List.mem_map.mp hb
      have g : h.objs.size + 1 ≤ p.1 := cellLed_ge hp
      have l := Heap.lt_size (hfoot q hq)
      rw [e] at g
      exact Nat.lt_irrefl _ (Nat.lt_trans (Nat.lt_of_succ_le g) l)
  exact wpAny_bind (bindAll (prog := prog) (w := w) (A := A) (E := E) N B _ (fun _ _ _ => rfl) _ _ S0 fun h₁ tk' S1 => wpAny_pure (hQ h₁ tk' S1 fun b o e hb => S1.elim fun m F _ => F.keep b o (hideAll_get _ e hb))).out)

/-- a call of a def; own cells, a closure's cells, foot: what the call may turn -/
theorem call_g {Q E : Value → Shared → Prop} (C : Cx w loose mean mg mb A env outer A₀ base h₀ L (lv + 1)) (S : St h₀ L h ns vs (foot ++ rest))
    (ho : h.get? f = some fo) (hdat : fo.data = .func (fnX name qual params body scope cl dV kV doc pm an cdv ct)) (hcd : h.CodeRec cdv qual)
    (hbind : BindsTo ⟨h, gs, dr, tk, os⟩ (fnX name qual params body scope cl dV kV doc pm an cdv ct) args binds)
    (hfe : ∀ L', FnEnv (envG qual scope L' f cdv cl) L' ns' gl') {vs2 : Addr → List (Option Value)} {nw2 : Addr → List (Addr × Obj)}
    (hB : ∀ L', Bd (envG qual scope L' f cdv cl) ns' binds (ns'.map fun _ => none) (cellLed (L' + 1) (nones scope.names) ++ foot) (vs2 L') (nw2 L'))
    (hb : ∀ g L' h₁ tk₁ env' A', env' = envG qual scope L' f cdv cl → A' = A.deeper env' → Cx w loose mean mg mb A' env' (env :: outer) A base g L' lv → FnEnv env' L' ns' gl' → St g L' h₁ ns' (vs2 L') (nw2 L') →
      (∀ b o, b ∉ foot.map (·.1) → h.get? b = some o → g.get? b = some o) → ∀ Q' E', Ret g L' gs dr os Rel Q' → WP prog w A' (execs body env') Q' E' ⟨h₁, gs, dr, tk₁, os⟩)
    (k : ∀ v h' tk' news', Rel v news' → St h₀ L h' ns vs (news' ++ rest) → Q v ⟨h', gs, dr, tk', os⟩)
    (hco : scope.isCoroutine = false := by rfl) (hgen : scope.isGenerator = false := by rfl) (hk : scope.kind = .function := by rfl) :
    WP prog w A (PySem.call (.ref f) args.pos args.kw) Q E ⟨h, gs, dr, tk, os⟩ := by
  obtain ⟨m, F, hm⟩ := S.fr
  have N1 : News h₀ L h foot := fun p hp => S.nw p (List.mem_append_left _ hp)
  obtain ⟨FG, BG, st, _⟩ := groundX (s := ⟨h, gs, dr, tk, os⟩) (R := fun _ _ => True) C.below F N1 C.frames C.frame C.kind
  have nd := S.nd
  rw [List.map_append, List.nodup_append] at nd
  apply WP.mk
  with_reducible refine wpAny_call ?_
  refine codeAny_call_function (fd := fnX name qual params body scope cl dV kV doc pm an cdv ct) (by have := C.depth; unfold recursionLimit; omega) ho hdat hco hgen rfl hcd (hbind _ _ _ _ ?_)
  refine (newEnvG (prog := prog) (w := w) (ns := ns') (gl := gl') hk foot (fun p hp => (N1 p hp).1) nd.1 (hfe _) (hB _) fun h₁ tk₁ Sb kb => ?_).out
  refine ⟨?_, codeAny_func ?_⟩
  · have z := (C.T.nolimit.keeps st)
    exact Sb.elim fun m' F' _ => z.keeps F'.keep
  have Cb : Cx w loose mean mg mb (A.deeper (envG qual scope h.objs.size f cdv cl)) (envG qual scope h.objs.size f cdv cl) (env :: outer) A base (hideAll h (foot.map (·.1))) h.objs.size lv :=
    { below := BG, frames := Around.frames_deeper C.frames, frame := rfl, kind := hk, X := C.X.keeps st, T := C.T.keeps st, hand := C.hand,
      depth := by have := C.depth; show A.depth + 1 + lv ≤ 330; omega, units := by have := C.units; show A.units + 3 + 20 * lv ≤ 8000; omega }
  have body := (hb _ _ h₁ tk₁ _ _ rfl rfl Cb (hfe _) Sb (fun b o hb e => hideAll_get _ e hb) (RetQ Q) (fun e s' => wpAny (model prog w) (A.deeper (envG qual scope h.objs.size f cdv cl)) (leaving (envG qual scope h.objs.size f cdv cl) e) (fun _ s'' => E e s'') (fun e' s'' => E e' s'') s')
    fun v h' tk' ns2 vs2 news' S' R => k v h' tk' news' R (S'.ret F hm S.nw S.nd rfl)).out
  refine wpAny_mono body (fun fl s' hq => ?_) (fun _ _ x => x)
  cases fl <;> first | exact hq | exact hq.elim
end
end Mine
end
section
open PySem PySem.Spec PySem.Calls PySem.W PyProof.Rows
open LCg (NsObj ns_obj fr_but)
set_option maxRecDepth 100000
set_option linter.unusedVariables false
namespace Mine

theorem Sel.app {a : Addr} {o o' : Obj} {l l' : List (Addr × Obj)} (q : Sel a o o' l l') : ∀ nw, Sel a o o' (nw ++ l) (nw ++ l')
  | [] => q
  | p :: nw => .tl (q.app nw)
theorem Sel.appL {a : Addr} {o o' : Obj} {l l' : List (Addr × Obj)} (q : Sel a o o' l l') (r : List (Addr × Obj)) : Sel a o o' (l ++ r) (l' ++ r) := by
  induction q with
  | hd => exact .hd
  | tl _ ih => exact .tl ih

section
variable {h₀ h h2 : Heap} {L : Addr} {ns : List Str} {vs : List (Option Value)} {l l' nw : List (Addr × Obj)} {a : Addr} {o o' : Obj}
theorem St.but (S : St h₀ L h ns vs l) (sel : Sel a o o' l l') (k : ∀ b x, b ≠ a → h.get? b = some x → h2.get? b = some x) (e : h2.get? a = some o') : St h₀ L h2 ns vs l' := S.elim fun m F back => by
  have z := S.nw (a, o) sel.mem
  refine back _ _ (fr_but F (fun b x hb => k b x (by simpa using hb)) (Ne.symm z.2.1) z.2.2) ?_ (sel.addrs ▸ S.nd)
  obtain ⟨pre, post, e1, e2, a1, b1⟩ := (sel.upd S.nd).split
  subst e1 e2
  intro p hp
  rcases List.mem_append.mp hp with hp | hp
  · have q := S.nw p (List.mem_append.mpr (.inl hp))
    exact ⟨k _ _ (a1 p hp) q.1, q.2⟩
  · rcases List.mem_cons.mp hp with rfl | hp
    · exact ⟨e, z.2⟩
    · have q := S.nw p (List.mem_append.mpr (.inr (.tail _ hp)))
      exact ⟨k _ _ (b1 p hp) q.1, q.2⟩
theorem St.forget (S : St h₀ L h ns vs ((a, o) :: l)) (k : ∀ b x, b ≠ a → h.get? b = some x → h2.get? b = some x) : St h₀ L h2 ns vs l := S.elim fun m F back => by
  have z := S.nw (a, o) (.head _)
  have nd := List.nodup_cons.mp S.nd
  refine back _ _ (fr_but F (fun b x hb => k b x (by simpa using hb)) (Ne.symm z.2.1) z.2.2) (fun p hp => ?_) nd.2
  have q := S.nw p (.tail _ hp)
  exact ⟨k _ _ (fun e => nd.1 (List.mem_map.mpr ⟨p, hp, e⟩)) q.1, q.2⟩
theorem St.push (S : St h₀ L h ns vs l) (o : Obj) (hf : o.isFreed = false := by rfl) : St h₀ L (h.push o) ns vs ((h.objs.size, o) :: l) := S.elim fun m F back =>
  back _ _ (F.push _) (S.nw.push F _ hf) (nd_cons S.nd fun p hp => Heap.lt_size (S.nw p hp).1)
theorem St.nin (S : St h₀ L h ns vs (nw ++ (a, o) :: l)) : ∀ p ∈ nw, p.1 ≠ a := fun p hp e => by
  have nd := S.nd
  rw [List.map_append, List.nodup_append] at nd
  exact nd.2.2 p.1 (List.mem_map_of_mem hp) a (by simp) e
end

section
variable {prog : Program} {w : World} {A : Around} {env : Env} {h₀ h : Heap} {L : Addr} {ns : List Str} {vs : List (Option Value)} {news nw : List (Addr × Obj)}
variable {gs : Array GenState} {dr : Drawn} {tk : Nat} {os : OsState}

/-- an iterator that is walked beside a ledger -/
structure Wk (prog : Program) (w : World) (A : Around) (h₀ : Heap) (I : Addr) (n : Nat) (P : Nat → Value → Prop) (Sx : Nat → Heap → Prop) (Lx : Heap → Prop) : Prop where
  walks : ∃ fp, Walks prog w A I fp [I] n P Sx
  here : ∀ i h, Sx i h → ∃ o, h.get? I = some o
  keep : ∀ i h h' o, Sx i h → h.get? I = some o → h'.get? I = some o → Lx h' → Sx i h'
theorem Wk.stays {I : Addr} {n : Nat} {P : Nat → Value → Prop} {Sx : Nat → Heap → Prop} {Lx : Heap → Prop} (W : Wk prog w A h₀ I n P Sx Lx) {i : Nat} {h h' : Heap} (x : Sx i h) (s : h.StaysIn h') : Sx i h' :=
  let ⟨_, W'⟩ := W.walks; W'.frame _ _ _ x fun b _ o e => s b o e

theorem Wk.list (hh : A.handled = none) {I l : Addr} (hne : l ≠ I) (its : Array Value) : Wk prog w A h₀ I its.size (fun i v => its[i]? = some v) (fun i h => h.IsListIter I l i ∧ h.IsList l its) (fun h => h.IsList l its) where
  walks := ⟨_, Walks.list hh I l hne its⟩
  here := fun i h x => let ⟨o, e, _⟩ := x.1; ⟨o, e⟩
  keep := fun i h h' o x e e' lx => ⟨let ⟨o2, e2, r⟩ := x.1; ⟨o2, by rw [e'] ; rw [e] at e2; exact e2, r⟩, lx⟩
theorem Wk.range (hh : A.handled = none) {I : Addr} (a c : Int) (n : Nat) : Wk prog w A h₀ I n (fun i v => ∃ t, v = .int (a + i * c) t) (fun i h => IsRangeIter h I (a + (i : Nat) * c) ((n : Int) - (i : Nat)) c) (fun _ => True) where
  walks := ⟨_, Walks.range hh I a c n⟩
  here := fun i h x => ⟨_, x⟩
  keep := fun i h h' o x e e' _ => by
    have x' : h.get? I = some _ := x
    rw [e] at x'
    cases x'
    exact e'

theorem it_list {l : Addr} {its : Array Value} {Q : Value → Shared → Prop} {E : Value → Shared → Prop} (hh : A.handled = none) (S : St h₀ L h ns vs news) (hl : h.IsList l its)
    (k : ∀ I oI h', St h₀ L h' ns vs ((I, oI) :: news) → h.StaysIn h' → l ≠ I → Wk prog w A h₀ I its.size (fun i v => its[i]? = some v) (fun i h => h.IsListIter I l i ∧ h.IsList l its) (fun h => h.IsList l its) →
      (h'.IsListIter I l 0 ∧ h'.IsList l its) → Q (.ref I) ⟨h', gs, dr, tk, os⟩) : WP prog w A (pyIter (.ref l)) Q E ⟨h, gs, dr, tk, os⟩ := .mk (by
  have hne : l ≠ h.objs.size := by obtain ⟨_, e, _⟩ := hl; exact Nat.ne_of_lt (Heap.lt_size e)
  refine wpAny_pyIter_list hl ?_
  exact k _ _ _ (S.push _) (fun b o e => Heap.get?_push_of_some _ e) hne (Wk.list hh hne its) ⟨⟨_, Heap.get?_push_size _ rfl, rfl, rfl⟩, hl.at fun o e => Heap.get?_push_of_some _ e⟩)
theorem it_range {r : Addr} {b : Int} {t u v : Tok} {Q : Value → Shared → Prop} {E : Value → Shared → Prop} (hh : A.handled = none) (S : St h₀ L h ns vs news) (hr : IsRange h r 0 b 1 t u v) (h0 : 0 ≤ b) (h1 : b < 2 ^ 62)
    (k : ∀ I oI h', St h₀ L h' ns vs ((I, oI) :: news) → h.StaysIn h' → Wk prog w A h₀ I b.toNat (fun i v => ∃ t, v = .int (0 + i * 1) t) (fun i h => IsRangeIter h I (0 + (i : Nat) * 1) ((b.toNat : Int) - (i : Nat)) 1) (fun _ => True) →
      IsRangeIter h' I (0 + (0 : Nat) * 1) ((b.toNat : Int) - (0 : Nat)) 1 → Q (.ref I) ⟨h', gs, dr, tk, os⟩) : WP prog w A (pyIter (.ref r)) Q E ⟨h, gs, dr, tk, os⟩ := .mk (by
  refine wpAny_pyIter_range hr (small_one (by decide) (by decide) (by omega) h1) ?_
  have hs : Builtin.Range.rangeSize 0 b 1 = b := by rw [rangeSize_one]; split <;> omega
  refine k _ _ _ (S.push _) (fun b o e => Heap.get?_push_of_some _ e) (Wk.range hh 0 1 b.toNat) ?_
  show (Heap.push h _).get? h.objs.size = _
  rw [Heap.get?_push_size _ rfl, hs]
  have e1 : (0 : Int) + ((0 : Nat) : Int) * 1 = 0 := by decide
  have e2 : ((b.toNat : Int) - ((0 : Nat) : Int)) = b := by omega
  rw [e1, e2])
end

section
variable {prog : Program} {w : World} {A : Around} {env : Env} {h₀ h : Heap} {L : Addr} {ns : List Str} {vs : List (Option Value)} {news nw : List (Addr × Obj)}
variable {gs : Array GenState} {dr : Drawn} {tk : Nat} {os : OsState} {elt iter target : Expr} {ifs : List Expr} {scope : Scope} {pos : Pos} {cl : List (Str × Addr)}

theorem compLoop_any {it acc : Value} {R : Result → Shared → Prop} {s : Shared} (I : Nat → Shared → Prop)
    (turn : ∀ n s, I n s → wpAny (model prog w) A (pyNext it) (fun r s₁ => match r with
      | none => R (.ok .next) s₁
      | some v => wpAny (model prog w) A (letOwnedTupleGo target it v) (fun _ s₁' => wpAny (model prog w) A (assign target env v) (fun _ s₂ =>
          wpAny (model prog w) A (forIn ifs true fun c r => if r = true then do let ok ← PySem.isTrue c env (eval c env); pure (ForInStep.yield ok) else pure (ForInStep.yield r)) (fun ok s₃ =>
            if ok = true then wpAny (model prog w) A (eval elt env) (fun x s₄ =>
              wpAny (model prog w) A (call (.builtin "list.append") [acc, x]) (fun _ s₅ => ∃ m, m < n ∧ I m s₅) (notedBy (model prog w) A env fun e s' => R (.error e) s') s₄) (notedBy (model prog w) A env fun e s' => R (.error e) s') s₃
            else ∃ m, m < n ∧ I m s₃) (notedBy (model prog w) A env fun e s' => R (.error e) s') s₂) (notedBy (model prog w) A env fun e s' => R (.error e) s') s₁') (notedBy (model prog w) A env fun e s' => R (.error e) s') s₁) (notedBy (model prog w) A env fun e s' => R (.error e) s') s)
    (n : Nat) (h : I n s) : codeAny (model prog w) A (.compLoop (.ListComp elt [⟨target, iter, ifs, 0⟩] scope pos) 0 it acc env) R s := by
  refine codeAny_loop rfl I (fun n s hI => ?_) n h
  show wpAny _ A ((compTurn (.ListComp elt [⟨target, iter, ifs, 0⟩] scope pos) 0 it acc env).onRaise (fun x => do noteFrame x env; theTreesLotGoes x)) _ _ s
  refine wpAny_noted ?_
  rw [compTurn_list]
  refine wpAny_bind (wpAny_standAt (wpAny_bind (wpAny_mono (turn n s hI) (fun r s₁ h₁ => ?_) fun _ _ h' => h')))
  cases r with
  | none => exact wpAny_pure h₁
  | some v =>
    refine wpAny_bind (wpAny_mono h₁ (fun _ s₁' h₁' => ?_) fun _ _ h' => h')
    refine wpAny_bind (wpAny_mono h₁' (fun _ s₂ h₂ => wpAny_bind (wpAny_mono h₂ (fun ok s₃ h₃ => ?_) fun _ _ h' => h')) fun _ _ h' => h')
    cases ok with
    | false => exact wpAny_pure ⟨rfl, h₃⟩
    | true =>
      exact wpAny_bind (wpAny_bind (wpAny_mono h₃ (fun x s₄ h₄ => wpAny_bind (wpAny_mono h₄ (fun _ s₅ h₅ => wpAny_pure (wpAny_pure ⟨rfl, h₅⟩)) fun _ _ h' => h')) fun _ _ h' => h'))

/-- a turn of a list comprehension -/
def CTurn (prog : Program) (w : World) (A : Around) (h₀ : Heap) (L : Addr) (ns : List Str) (vs : List (Option Value)) (gs : Array GenState) (dr : Drawn) (os : OsState) (env : Env) (scope : Scope) (cl : List (Str × Addr)) (ifs : List Expr) (elt : Expr)
    (n : Nat) (P : Nat → Value → Prop) (B : Nat → Value → (Str → Option Value) → Prop) (J : Nat → List Value → List (Addr × Obj) → Prop) : Prop :=
  ∀ i ys nw tail h tk C oC m v, i < n → P i v → J i ys nw → St h₀ L h ns vs (nw ++ tail) → (C, oC) ∈ tail → NsObj oC m → B i v m →
    ∃ ok : Bool, (∀ E', wpAny (model prog w) A (forIn ifs true fun c r => if r = true then do let ok ← PySem.isTrue c (compEnvC scope cl C env) (eval c (compEnvC scope cl C env)); pure (ForInStep.yield ok) else pure (ForInStep.yield r))
        (fun r s' => r = ok ∧ ∃ h' tk', s' = ⟨h', gs, dr, tk', os⟩ ∧ h.StaysIn h') E' ⟨h, gs, dr, tk, os⟩) ∧ (ok = false → J (i + 1) ys nw) ∧
      (ok = true → ∀ h2 tk2 E', h.StaysIn h2 → St h₀ L h2 ns vs (nw ++ tail) → WP prog w A (eval elt (compEnvC scope cl C env)) (fun y s' => ∃ h' tk' nw2, s' = ⟨h', gs, dr, tk', os⟩ ∧ St h₀ L h' ns vs (nw2 ++ tail) ∧ J (i + 1) (ys ++ [y]) nw2) E' ⟨h2, gs, dr, tk2, os⟩)

def CBind (prog : Program) (w : World) (A : Around) (h₀ : Heap) (L : Addr) (ns : List Str) (vs : List (Option Value)) (gs : Array GenState) (dr : Drawn) (os : OsState) (env : Env) (scope : Scope) (cl : List (Str × Addr)) (target : Expr) (I : Addr)
    (n : Nat) (P : Nat → Value → Prop) (Sx : Nat → Heap → Prop) (B : Nat → Value → (Str → Option Value) → Prop) (J : Nat → List Value → List (Addr × Obj) → Prop) : Prop :=
  ∀ i ys nw tail h tk C m v E', i < n → P i v → J i ys nw → St h₀ L h ns vs (nw ++ tail) → h.Ns C m → Sx (i + 1) h →
    wpAny (model prog w) A (letOwnedTupleGo target (.ref I) v) (fun _ s1 => wpAny (model prog w) A (assign target (compEnvC scope cl C env) v) (fun _ s2 => ∃ h2 tk2 m2, s2 = ⟨h2, gs, dr, tk2, os⟩ ∧ (∀ b o, b ≠ C → h.get? b = some o → h2.get? b = some o) ∧ h2.Ns C m2 ∧ B i v m2) E' s1) E' ⟨h, gs, dr, tk, os⟩

theorem comp_core {I : Addr} {oI : Obj} {n : Nat} {P : Nat → Value → Prop} {Sx : Nat → Heap → Prop} {Lx : Heap → Prop} {B : Nat → Value → (Str → Option Value) → Prop} {J : Nat → List Value → List (Addr × Obj) → Prop} {RR : Value → Addr → Result → Shared → Prop} {E : Value → Shared → Prop}
    (W : Wk prog w A h₀ I n P Sx Lx) (hz : n ≤ 16777216) (hcell : ∀ y ∈ scope.names, y.2 ≠ .cell) (hkind : scope.kind = .function)
    (S : St h₀ L h ns vs ((I, oI) :: nw)) (hsx : Sx 0 h) (j0 : J 0 [] nw)
    (hL : ∀ i ys nw' h', J i ys nw' → (∀ p ∈ nw', h'.get? p.1 = some p.2) → h₀.StaysIn h' → Lx h')
    (bind : CBind prog w A h₀ L ns vs gs dr os env scope cl target I n P Sx B J)
    (turn : CTurn prog w A h₀ L ns vs gs dr os env scope cl ifs elt n P B J)
    (hRR : ∀ D C oC m h tk nw' ys yn, J n ys nw' → NsObj oC m → St h₀ L h ns vs ((C, oC) :: (D, listOf ys.toArray yn) :: nw') → RR (.ref D) C (.ok .next) ⟨h, gs, dr, tk, os⟩) :
    wpAny (model prog w) A (newList []) (fun acc s₃ => wpAny (model prog w) A (newFunctionEnv scope env.globals cl [] env.qual none .none (some env)) (fun cenv s₄ =>
      codeAny (model prog w) A (.compStart (.ListComp elt [⟨target, iter, ifs, 0⟩] scope pos) 0 (.ref I) acc { cenv with scope := relabel scope env }) (RR acc cenv.locals) s₄) E s₃) E ⟨h, gs, dr, tk, os⟩ := by
  obtain ⟨fp, Wa⟩ := W.walks
  refine wpAny_newObj_type (wpAny_newFunctionEnv hcell (by intro y hy; simp at hy) (fun h₁ hns₁ hsb₁ => ?_) hkind)
  dsimp only at hns₁ hsb₁ ⊢
  have S2 := S.push { cls := .type "list", dict := none, data := .seq ([] : List Value).toArray }
  generalize hD : h.objs.size = D at S2
  generalize hH2 : h.push { cls := .type "list", dict := none, data := .seq ([] : List Value).toArray } = H2 at hns₁ hsb₁ S2 ⊢
  have st2 : h.StaysIn H2 := fun b o e => hH2 ▸ Heap.get?_push_of_some _ e
  generalize hC : H2.objs.size = C at hns₁ hsb₁ ⊢
  obtain ⟨oC, eC, mC⟩ := ns_obj hns₁
  have st1 : H2.StaysIn h₁ := fun b o e => hsb₁.extBut b o (hC ▸ Nat.ne_of_lt (Heap.lt_size e)) (Heap.get?_push_of_some _ e)
  have S1 : St h₀ L h₁ ns vs ((C, oC) :: (D, listOf #[] 0) :: (I, oI) :: nw) := by
    have S3 := S2.push { cls := .type "dict", data := .dict #[] }
    rw [hC] at S3
    exact S3.but .hd (fun b x hb e => (hsb₁.2 b hb).trans e) eC
  have Sx1 : Sx 0 h₁ := W.stays (W.stays hsx st2) st1
  have perm : St h₀ L h₁ ns vs (nw ++ [(I, oI), (C, oC), (D, listOf #[] 0)]) := by
    have nd : (((C, oC) :: (D, listOf #[] 0) :: (I, oI) :: nw).map (·.1)).Nodup := S1.nd
    refine S1.perm (fun q hq => ?_) ?_
    · simp only [List.mem_append, List.mem_cons, List.not_mem_nil, or_false] at hq ⊢
      rcases hq with hq | hq | hq | hq <;> simp [hq]
    · rw [List.map_append, List.nodup_append]
      simp only [List.map_cons, List.nodup_cons, List.mem_cons, List.map_nil, List.not_mem_nil, not_or] at nd ⊢
      obtain ⟨⟨n1, n2, n3⟩, ⟨n4, n5⟩, n6, n7⟩ := nd
      refine ⟨n7, ⟨⟨Ne.symm n2, Ne.symm n4, not_false⟩, ⟨n1, not_false⟩, not_false, List.nodup_nil⟩, fun a ha b hb e => ?_⟩
      subst e
      rcases hb with rfl | rfl | rfl | hb
      · exact n6 ha
      · exact n3 ha
      · exact n5 ha
      · exact hb
  have loop : ∀ tk', codeAny (model prog w) A (.compLoop (.ListComp elt [⟨target, iter, ifs, 0⟩] scope pos) 0 (.ref I) (.ref D) (compEnvC scope cl C env)) (RR (.ref D) C) ⟨h₁, gs, dr, tk', os⟩ := by
    intro tk'
    refine compLoop_any (fun k s' => ∃ h' tk i ys nw' oI oC m yn, s' = ⟨h', gs, dr, tk, os⟩ ∧ i ≤ n ∧ k = n + 1 - i ∧ ys.length ≤ i ∧ Sx i h' ∧ J i ys nw' ∧ NsObj oC m ∧
        St h₀ L h' ns vs (nw' ++ [(I, oI), (C, oC), (D, listOf ys.toArray yn)])) ?_ (n + 1) ⟨h₁, tk', 0, [], nw, oI, oC, _, 0, rfl, Nat.zero_le _, rfl, Nat.le_refl _, Sx1, j0, mC, perm⟩
    rintro k s' ⟨h', tk, i, ys, nw', oI, oC, m, yn, rfl, hi, rfl, hyl, sx', j', hm, S'⟩
    by_cases hlt : i < n
    · refine Wa.item i _ _ _ hlt sx' fun v h2 tk2 hP sx2 hk2 => ?_
      obtain ⟨oI2, eI2⟩ := W.here _ _ sx2
      have S2 := S'.but (Sel.app .hd nw') (o' := oI2) (fun b x hb e => hk2 b x (by simpa using hb) e) eI2
      have mem2 : (C, oC) ∈ nw' ++ [(I, oI2), (C, oC), (D, listOf ys.toArray yn)] := List.mem_append.mpr (.inr (.tail _ (.head _)))
      have hIC : I ≠ C := by
        have nd := S2.nd
        rw [List.map_append, List.nodup_append] at nd
        have := nd.2.1
        simp at this
        exact this.1.1
      refine wpAny_mono (bind i ys nw' _ h2 tk2 C m v _ hlt hP j' S2 (hm.ns (S2.get mem2)) sx2) (fun _ s3 q => wpAny_mono q (fun _ s4 q4 => ?_) fun _ _ e => e) fun _ _ e => e
      obtain ⟨h4, tk4, m4, rfl, hk4, hn4, hB⟩ := q4
      obtain ⟨oC4, eC4, mC4⟩ := ns_obj hn4
      have S4 := S2.but (Sel.app (.tl .hd) nw') (o' := oC4) hk4 eC4
      have mem4 : (C, oC4) ∈ [(I, oI2), (C, oC4), (D, listOf ys.toArray yn)] := .tail _ (.head _)
      obtain ⟨ok, t1, t2, t3⟩ := turn i ys nw' _ h4 tk4 C oC4 m4 v hlt hP j' S4 mem4 mC4 hB
      have eI4 := hk4 I oI2 hIC eI2
      refine wpAny_mono (t1 _) (fun r s5 q5 => ?_) fun _ _ e => e
      obtain ⟨rfl, h5, tk5, rfl, st5⟩ := q5
      have S5 := S4.grow st5
      cases r with
      | false =>
        rw [if_neg Bool.false_ne_true]
        have j5 := t2 rfl
        refine ⟨n + 1 - (i + 1), by omega, h5, tk5, i + 1, ys, nw', oI2, oC4, m4, yn, rfl, hlt, rfl, by omega, ?_, j5, mC4, S5⟩
        exact W.keep _ _ _ _ sx2 eI2 (st5 _ _ eI4) (hL _ _ _ _ j5 (fun p hp => S5.get (List.mem_append.mpr (.inl hp))) (S5.elim fun m F _ => F.keep))
      | true =>
        rw [if_pos rfl]
        refine wpAny_mono (t3 rfl h5 tk5 _ st5 S5).out (fun y s6 q6 => ?_) fun _ _ e => e
        obtain ⟨h6, tk6, nw2, rfl, S6, j6⟩ := q6
        have memD : (D, listOf ys.toArray yn) ∈ nw2 ++ [(I, oI2), (C, oC4), (D, listOf ys.toArray yn)] := List.mem_append.mpr (.inr (.tail _ (.tail _ (.head _))))
        have eI6 := S6.get (a := I) (o := oI2) (List.mem_append.mpr (.inr (.head _)))
        refine append_at (S6.get memD) (hsz := by rw [sizeLine_eq, List.size_toArray]; omega) fun h7 hs7 hD7 => ?_
        have S7 := S6.but (Sel.app (.tl (.tl .hd)) nw2) (o' := listOf (ys ++ [y]).toArray (yn + 1)) (fun b x hb e => (hs7.2 b hb).trans e) (by rw [hD7]; simp)
        have hID : I ≠ D := by
          have nd := S7.nd
          rw [List.map_append, List.nodup_append] at nd
          have := nd.2.1
          simp at this
          exact this.1.2
        refine ⟨n + 1 - (i + 1), by omega, h7, tk6, i + 1, ys ++ [y], nw2, oI2, oC4, m4, yn + 1, rfl, hlt, rfl, by rw [List.length_append, List.length_singleton]; omega, ?_, j6, mC4, S7⟩
        exact W.keep _ _ _ _ sx2 eI2 ((hs7.2 _ hID).trans eI6) (hL _ _ _ _ j6 (fun p hp => S7.get (List.mem_append.mpr (.inl hp))) (S7.elim fun m F _ => F.keep))
    · obtain rfl : i = n := Nat.le_antisymm hi (Nat.not_lt.mp hlt)
      refine Wa.done _ _ _ sx' fun h2 tk2 hk2 => ?_
      have nd := S'.nd
      rw [List.map_append, List.nodup_append] at nd
      have S3 : St h₀ L h' ns vs ((I, oI) :: (C, oC) :: (D, listOf ys.toArray yn) :: nw') := by
        refine S'.perm (fun q hq => ?_) ?_
        · simp only [List.mem_append, List.mem_cons, List.not_mem_nil, or_false] at hq ⊢
          rcases hq with hq | hq | hq | hq <;> simp [hq]
        · show ([(I, oI), (C, oC), (D, listOf ys.toArray yn)].map (·.1) ++ nw'.map (·.1)).Nodup
          rw [List.nodup_append]
          exact ⟨nd.2.1, nd.1, fun a ha b hb e => nd.2.2 b hb a ha e.symm⟩
      exact hRR D C oC m h2 tk2 nw' ys yn j' hm (S3.forget fun b x hb e => hk2 b x (by simpa using hb) e)
  exact codeAny_compStart_list (loop _) (Wa.self 0 _ _ _ Sx1 (loop _))
end
end Mine
end
section
open PySem PySem.Spec PySem.Calls PySem.W PyProof.Rows
open LCg (NsObj ns_obj fr_but)
set_option maxRecDepth 100000
set_option linter.unusedVariables false
namespace Mine

theorem relabel_lookup {env : Env} {x : Str} {k : NameKind} (hk : k ≠ .free) : ∀ {names : List (Str × NameKind)}, names.lookup x = some k →
    (names.map fun (n, k) => if (k == NameKind.free && env.scope.kind == .function && env.kindOf n == some .cell) then (n, NameKind.cell) else (n, k)).lookup x = some k
  | [], h => by simp at h
  | (n, k') :: r, h => by
    have ih := @relabel_lookup env x k hk r
    show List.lookup x ((if (k' == NameKind.free && env.scope.kind == .function && env.kindOf n == some .cell) = true then (n, NameKind.cell) else (n, k')) :: _) = _
    cases hx : x == n with
    | true =>
      simp only [List.lookup_cons, hx] at h
      cases h
      have : (k == NameKind.free) = false := by simpa using hk
      simp [List.lookup_cons, hx, this]
    | false =>
      simp only [List.lookup_cons, hx] at h
      by_cases hc : (k' == NameKind.free && env.scope.kind == .function && env.kindOf n == some .cell) = true
      · rw [if_pos hc]; simp only [List.lookup_cons, hx]; exact ih h
      · rw [if_neg hc]; simp only [List.lookup_cons, hx]; exact ih h
theorem relabel_free {env : Env} {x : Str} : ∀ {names : List (Str × NameKind)}, names.lookup x = some .free →
    (names.map fun (n, k) => if (k == NameKind.free && env.scope.kind == .function && env.kindOf n == some .cell) then (n, NameKind.cell) else (n, k)).lookup x = some .cell ∨
    (names.map fun (n, k) => if (k == NameKind.free && env.scope.kind == .function && env.kindOf n == some .cell) then (n, NameKind.cell) else (n, k)).lookup x = some .free
  | [], h => by simp at h
  | (n, k') :: r, h => by
    have ih := @relabel_free env x r
    show List.lookup x ((if (k' == NameKind.free && env.scope.kind == .function && env.kindOf n == some .cell) = true then (n, NameKind.cell) else (n, k')) :: _) = _ ∨ List.lookup x ((if (k' == NameKind.free && env.scope.kind == .function && env.kindOf n == some .cell) = true then (n, NameKind.cell) else (n, k')) :: _) = _
    cases hx : x == n with
    | true =>
      simp only [List.lookup_cons, hx] at h
      cases h
      by_cases hc : (NameKind.free == NameKind.free && env.scope.kind == .function && env.kindOf n == some .cell) = true
      · rw [if_pos hc]; simp [List.lookup_cons, hx]
      · rw [if_neg hc]; simp [List.lookup_cons, hx]
    | false =>
      simp only [List.lookup_cons, hx] at h
      by_cases hc : (k' == NameKind.free && env.scope.kind == .function && env.kindOf n == some .cell) = true
      · rw [if_pos hc]; simp only [List.lookup_cons, hx]; exact ih h
      · rw [if_neg hc]; simp only [List.lookup_cons, hx]; exact ih h

/-- what stands of the global names of an env -/
structure Gl (env : Env) (gl : List Str) : Prop where
  kind : env.scope.kind = .function
  globals : env.globals = mainGlobals
  builtins : env.builtins = builtinsNs
  glo : ∀ x ∈ gl, env.kindOf x = some .globalImplicit
  dbg : ∀ x ∈ gl, (x == ("__debug__" : Str)) = false
theorem FnEnv.gl {env : Env} {L : Addr} {ns gl : List Str} (N : FnEnv env L ns gl) : Gl env gl := ⟨N.kind, N.globals, N.builtins, N.glo, fun x hx => N.dbg x (List.mem_append_right _ hx)⟩
theorem Gl.comp {env : Env} {gl gl2 : List Str} {scope : Scope} {cl : List (Str × Addr)} {C : Addr} (G : Gl env gl) (hk : scope.kind = .function) (h : ∀ x ∈ gl2, scope.names.lookup x = some .globalImplicit) (d : ∀ x ∈ gl2, (x == ("__debug__" : Str)) = false) : Gl (compEnvC scope cl C env) gl2 :=
  ⟨hk, G.globals, G.builtins, fun x hx => relabel_lookup (by decide) (h x hx), d⟩
theorem CE.comp {env : Env} {scope : Scope} {cl : List (Str × Addr)} {C c : Addr} {x : Str} (h : scope.names.lookup x = some .free) (hc : cl.lookup x = some c) (d : (x == ("__debug__" : Str)) = false) (d' : (x == ("__classdict__" : Str)) = false) : CE (compEnvC scope cl C env) x c :=
  ⟨relabel_free h, hc, d, d'⟩

def cloOf (lk : Str → Option Addr) : List (Str × NameKind) → List (Str × Addr) → Option (List (Str × Addr))
  | [], acc => some acc
  | (n, k) :: r, acc => if k == .free then (match lk n with | some c => cloOf lk r ((n, c) :: acc) | none => none) else cloOf lk r acc
theorem closure_of {env : Env} {scope : Scope} {cl : List (Str × Addr)} (h : cloOf (fun n => env.cells.lookup n) scope.names [] = some cl) : closureFor scope env = pure cl := by
  have key : ∀ (names : List (Str × NameKind)) (acc : List (Str × Addr)), cloOf (fun n => env.cells.lookup n) names acc = some cl →
      (forIn names acc fun x r => if x.2 == .free then do let a ← cellOf env x.1; pure (.yield ((x.1, a) :: r)) else pure (.yield r) : Sem (List (Str × Addr))) = pure cl := by
    intro names
    induction names with
    | nil => intro acc h; simp only [cloOf, Option.some.injEq] at h; subst h; rfl
    | cons y r ih =>
      intro acc h
      obtain ⟨n, k⟩ := y
      rw [List.forIn_cons]
      unfold cloOf at h
      by_cases hk : (k == NameKind.free) = true
      · rw [if_pos hk] at h ⊢
        cases q : env.cells.lookup n with
        | none => rw [q] at h; cases h
        | some c =>
          rw [q] at h
          have : cellOf env n = pure c := by unfold cellOf; rw [q]
          rw [this]
          simp only [pure_bind]
          exact ih _ h
      · rw [if_neg hk] at h ⊢
        simp only [pure_bind]
        exact ih _ h
  have := key scope.names [] h
  unfold closureFor
  simpa using this

section
variable {prog : Program} {w : World} {loose : List Str} {mean : ExcName → Option Value} {mg mb : Str → Option Value} {A A₀ : Around} {env cenv : Env} {outer : List Env} {base h₀ h : Heap} {L : Addr} {lv : Nat} {ns gl : List Str} {vs vs' : List (Option Value)} {news nw : List (Addr × Obj)} {x y : Str} {v u : Value} {p px py : Pos}
variable {gs : Array GenState} {dr : Drawn} {tk : Nat} {os : OsState} {elt iter target : Expr} {ifs : List Expr} {scope : Scope} {pos : Pos} {cl : List (Str × Addr)}

theorem Ev.globC (G : Gl cenv gl) (C : Cx w loose mean mg mb A env outer A₀ base h₀ L lv) (S : St h₀ L h ns vs news) (e : nsIn (hd.heap_39 w.params) mainGlobals x = some (some v)) (hx : x ∈ gl) {u : Value} (hu : nt v = u) : Ev prog w A cenv h (.Name x p) u := fun h1 s1 gs dr tk os Q E k => by
  obtain ⟨m, F, hm⟩ := (S.grow s1).fr
  exact .mk (by with_reducible exact Name_function_global G.kind (G.glo x hx) (loadGlobal_global (G.globals ▸ C.T.g.keeps F.keep) (mg_of C.X C.T.g e) (k _ _ _ hu (stays_refl h1))) (G.dbg x hx))
theorem Ev.biC (G : Gl cenv gl) (C : Cx w loose mean mg mb A env outer A₀ base h₀ L lv) (S : St h₀ L h ns vs news) (e : nsIn (hd.heap_39 w.params) mainGlobals x = some none) (hx : x ∈ gl) (hv : bootBuiltins x = some v) (hn : x ≠ "__name__") (hu : nt v = v) : Ev prog w A cenv h (.Name x p) v := fun h1 s1 gs dr tk os Q E k => by
  obtain ⟨m, F, hm⟩ := (S.grow s1).fr
  exact .mk (by with_reducible exact Name_function_global G.kind (G.glo x hx) (loadGlobal_builtin (G.globals ▸ C.T.g.keeps F.keep) (mg_none_of C.X C.T.g e) (G.builtins ▸ C.T.b.keeps F.keep) ((C.T.builtins x hn).trans hv) (k _ _ _ hu (stays_refl h1))) (G.dbg x hx))
/-- a comprehension's own name -/
theorem Ev.cn {C : Addr} {oC : Obj} {m : Str → Option Value} (S : St h₀ L h ns vs news) (hC : (C, oC) ∈ news) (hm : NsObj oC m) (hx : m x = some v) (hk : scope.kind = .function) (hl : scope.names.lookup x = some .local) (hd : (x == ("__debug__" : Str)) = false) (hu : nt v = u) :
    Ev prog w A (compEnvC scope cl C env) h (.Name x p) u := fun h1 s1 gs dr tk os Q E k => by
  have hn : h1.Ns C m := hm.ns (s1 _ _ (S.get hC))
  have hk' : (compEnvC scope cl C env).scope.kind = .function := hk
  have hn' : h1.Ns (compEnvC scope cl C env).locals m := hn
  have hl' : (compEnvC scope cl C env).kindOf x = some .local := relabel_lookup (by decide) hl
  exact .mk (by with_reducible exact wpAny_Name (wpAny_loadName_local hk' hl' hn' hx (k _ _ _ hu (stays_refl h1))) hd)

theorem CBind.name {I : Addr} {n : Nat} {P : Nat → Value → Prop} {Sx : Nat → Heap → Prop} {J : Nat → List Value → List (Addr × Obj) → Prop} (hkind : scope.kind = .function) (hx : scope.names.lookup x = some .local) :
    CBind prog w A h₀ L ns vs gs dr os env scope cl (.Name x px) I n P Sx (fun _ v m => m x = some v) J := by
  intro i ys nw tail h tk C m v E' _ _ _ _ hn _
  refine wpAny_of_eq (a := ()) rfl ?_
  refine wpAny_assign_Name (wpAny_storeName_local (env := compEnvC scope cl C env) (relabel_lookup (by decide) hx) hn (fun h3 hn3 hs3 => ?_) (by simp [compEnvC, relabel, hkind]))
  exact ⟨h3, _, _, rfl, fun b o hb e => hs3.extBut b o hb e, hn3, by simp⟩

theorem CTurn.plain {n : Nat} {P : Nat → Value → Prop} {B : Nat → Value → (Str → Option Value) → Prop} {J : Nat → List Value → List (Addr × Obj) → Prop}
    (k : ∀ i ys nw tail h tk C oC m v E', i < n → P i v → J i ys nw → St h₀ L h ns vs (nw ++ tail) → (C, oC) ∈ tail → NsObj oC m → B i v m →
      WP prog w A (eval elt (compEnvC scope cl C env)) (fun y s' => ∃ h' tk' nw2, s' = ⟨h', gs, dr, tk', os⟩ ∧ St h₀ L h' ns vs (nw2 ++ tail) ∧ J (i + 1) (ys ++ [y]) nw2) E' ⟨h, gs, dr, tk, os⟩) :
    CTurn prog w A h₀ L ns vs gs dr os env scope cl [] elt n P B J := fun i ys nw tail h tk C oC m v hi hP hJ S hC hm hB =>
  ⟨true, fun E' => wpAny_tests_nil ⟨rfl, h, tk, rfl, stays_refl h⟩, fun e => (nomatch e), fun _ h2 tk2 E' st S2 => k i ys nw tail h2 tk2 C oC m v E' hi hP hJ S2 hC hm hB⟩

/-- what a comprehension's source hands to its turns -/
def CGo (prog : Program) (w : World) (A : Around) (h₀ : Heap) (L : Addr) (ns : List Str) (vs : List (Option Value)) (gs : Array GenState) (dr : Drawn) (os : OsState) (env : Env) (scope : Scope) (cl : List (Str × Addr)) (target : Expr) (ifs : List Expr) (elt : Expr)
    (Fin : Addr → List Value → Nat → List (Addr × Obj) → Heap → Nat → Prop) (it : Value) (s₂ : Shared) : Prop :=
  ∃ I oI n P Sx Lx B J h nw tk, it = .ref I ∧ s₂ = ⟨h, gs, dr, tk, os⟩ ∧ Wk prog w A h₀ I n P Sx Lx ∧ n ≤ 16777216 ∧ St h₀ L h ns vs ((I, oI) :: nw) ∧ Sx 0 h ∧ J 0 [] nw ∧
    (∀ i ys nw' h', J i ys nw' → (∀ p ∈ nw', h'.get? p.1 = some p.2) → h₀.StaysIn h' → Lx h') ∧ CBind prog w A h₀ L ns vs gs dr os env scope cl target I n P Sx B J ∧
    CTurn prog w A h₀ L ns vs gs dr os env scope cl ifs elt n P B J ∧ ∀ D h tk nw' ys yn, J n ys nw' → Fin D ys yn nw' h tk

theorem c_comp {Q E : Value → Shared → Prop} {s : Shared} (hclos : closureFor scope env = pure cl) (hcell : ∀ y ∈ scope.names, y.2 ≠ .cell) (hkind : scope.kind = .function) (hnames : ∀ y ∈ scope.names, y.2 = .local → scope.names.lookup y.1 = some .local)
    (h : WP prog w A (eval iter env) (fun xv s₁ => WP prog w A (pyIter xv) (CGo prog w A h₀ L ns vs gs dr os env scope cl target ifs elt (fun D ys yn nw' h tk => St h₀ L h ns vs ((D, listOf ys.toArray yn) :: nw') → Q (.ref D) ⟨h, gs, dr, tk, os⟩)) E s₁) E s)
    (hs : ∀ x, foldedSetIterable iter env x = pure x := by intro _; rfl) : WP prog w A (eval (.ListComp elt [⟨target, iter, ifs, 0⟩] scope pos) env) Q E s := .mk (by
  rw [eval_ListComp]
  refine wpAny_comprehension_free (use := none) rfl hs hclos hkind hnames (wpAny_mono h.out (fun xv s₁ h₁ => wpAny_mono h₁.out (fun it s₂ h₂ => ?_) fun _ _ e => e) fun _ _ e => e)
  obtain ⟨I, oI, n, P, Sx, Lx, B, J, h, nw, tk, rfl, rfl, W, hz, S, hsx, j0, hL, bind, turn, fin⟩ := h₂
  refine comp_core (RR := fun acc C => compPost (model prog w) A E none Q acc C) W hz hcell hkind S hsx j0 hL bind turn ?_
  intro D C oC m h tk nw' ys yn j hm S
  exact ⟨m, hm.ns (S.get (.head _)), fun h' hs' => fin D h' tk nw' ys yn j (S.forget fun b x hb e => (hs'.2 b hb).trans e)⟩)

theorem x_comp {vsD : Addr → List (Option Value)} {rest : List Stmt} {spos : Pos} {Q : Flow → Shared → Prop} {E : Value → Shared → Prop} {s : Shared} (N : FnEnv env L ns gl) (hclos : closureFor scope env = pure cl) (hcell : ∀ y ∈ scope.names, y.2 ≠ .cell) (hkind : scope.kind = .function) (hnames : ∀ y ∈ scope.names, y.2 = .local → scope.names.lookup y.1 = some .local)
    (pt : ∀ D, Pt ns vs y (some (.ref D)) (vsD D))
    (h : WP prog w A (eval iter env) (fun xv s₁ => WP prog w A (pyIter xv) (CGo prog w A h₀ L ns vs gs dr os env scope cl target ifs elt (fun D ys yn nw' h tk => ∀ h' tk', St h₀ L h' ns (vsD D) ((D, listOf ys.toArray yn) :: nw') → WP prog w A (execs rest env) Q E ⟨h', gs, dr, tk', os⟩)) E s₁) E s)
    (hsw : swapsWith (.ListComp elt [⟨target, iter, ifs, 0⟩] scope pos) (some (.Name y py)) spos.line env = pure true)
    (hs : ∀ x, foldedSetIterable iter env x = pure x := by intro _; rfl) : WP prog w A (execs (.Assign [.Name y py] (.ListComp elt [⟨target, iter, ifs, 0⟩] scope pos) spos :: rest) env) Q E s := x_cons (.mk (by
  rw [exec_Assign_Name_used _ _ _ _ hsw]
  refine wpAny_bind (wpAny_standAt (wpAny_bind ?_))
  show wpAny _ A (do let _ ← comprehension (.ListComp elt [⟨target, iter, ifs, 0⟩] scope pos) scope env _ (newList []) false (eval iter env) (some (assign (.Name y py) env))) _ _ s
  refine wpAny_bind (wpAny_mono (wpAny_comprehension_free (use := some (assign (.Name y py) env)) (Q := fun _ s' => wpAny (model prog w) A (execs rest env) Q E s') rfl hs hclos hkind hnames
    (wpAny_mono h.out (fun xv s₁ h₁ => wpAny_mono h₁.out (fun it s₂ h₂ => ?_) fun _ _ e => e) fun _ _ e => e)) (fun _ s' hq => wpAny_pure (wpAny_pure hq)) fun _ _ e => e)
  obtain ⟨I, oI, n, P, Sx, Lx, B, J, h, nw, tk, rfl, rfl, W, hz, S, hsx, j0, hL, bind, turn, fin⟩ := h₂
  refine comp_core (RR := fun acc C => compPost (model prog w) A E (some (assign (.Name y py) env)) (fun _ s' => wpAny (model prog w) A (execs rest env) Q E s') acc C) W hz hcell hkind S hsx j0 hL bind turn ?_
  intro D C oC m h tk nw' ys yn j hm S
  show wpAny _ A (assign (.Name y py) env (.ref D)) _ _ _
  refine wpAny_assign_Name (st_loc (prog := prog) (w := w) (A := A) N S (pt D) fun h2 tk2 S2 => ?_).out
  exact ⟨m, hm.ns (S2.get (.head _)), fun h' hs' => (fin D h' tk2 nw' ys yn j h' tk2 (S2.forget fun b x hb e => (hs'.2 b hb).trans e)).out⟩))
end
end Mine
end
section
open PySem PySem.Spec PySem.Calls PySem.W PyProof.Rows
open LCg (NsObj ns_obj fr_but)
set_option maxRecDepth 100000
set_option linter.unusedVariables false
namespace Mine

section
variable {prog : Program} {w : World} {A : Around} {env cenv : Env} {s : Shared} {Q E : Value → Shared → Prop} {QB : Bool → Shared → Prop} {QF : Flow → Shared → Prop} {l r e t : Expr} {p p' : Pos} {rest b1 b2 : List Stmt} {op : Operator} {cop : CmpOp}
theorem WP.mono {α : Type} {m : Sem α} {Q Q' : α → Shared → Prop} {E : Value → Shared → Prop} (h : WP prog w A m Q E s) (k : ∀ v s', Q v s' → Q' v s') : WP prog w A m Q' E s := .mk (wpAny_mono h.out k fun _ _ x => x)
theorem w_bin (q : WP prog w A (eval l env) (fun v s₁ => WP prog w A (eval r env) (fun u s₂ => WP prog w A (binaryOp op v u) Q E s₂) E s₁) E s) : WP prog w A (eval (.BinOp l op r p) env) Q E s :=
  .mk (by with_reducible exact wpAny_BinOp (wpAny_mono q.out (fun v s₁ h => wpAny_mono h.out (fun u s₂ h' => h'.out) fun _ _ x => x) fun _ _ x => x))
theorem w_cmp (q : WP prog w A (eval l env) (fun v s₁ => WP prog w A (eval r env) (fun u s₂ => WP prog w A (compareOp cop v u) Q E s₂) E s₁) E s) (hm : behindInMarks cop r = false) : WP prog w A (eval (.Compare l [cop] [r] p) env) Q E s :=
  .mk (by with_reducible exact wpAny_Compare1 (wpAny_mono q.out (fun v s₁ h => wpAny_mono h.out (fun u s₂ h' => h'.out) fun _ _ x => x) fun _ _ x => x) hm)
theorem w_tcmp (q : WP prog w A (eval l env) (fun v s₁ => WP prog w A (eval r env) (fun u s₂ => WP prog w A (compareOp cop v u) (fun b s₃ => WP prog w A (truthy b) QB E s₃) E s₂) E s₁) E s) (hm : behindInMarks cop r = false) : WP prog w A (PySem.isTrue (.Compare l [cop] [r] p) env (eval (.Compare l [cop] [r] p) env)) QB E s :=
  .mk (by with_reducible exact wpAny_isTrue_Compare1 (wpAny_mono q.out (fun v s₁ h => wpAny_mono h.out (fun u s₂ h' => wpAny_mono h'.out (fun b s₃ h'' => h''.out) fun _ _ x => x) fun _ _ x => x) fun _ _ x => x) hm)
theorem w_ite (q : WP prog w A (PySem.isTrue t env (eval t env)) (fun c s₁ => if c then WP prog w A (eval l env) Q E s₁ else WP prog w A (eval r env) Q E s₁) E s) : WP prog w A (eval (.IfExp t l r p) env) Q E s :=
  .mk (by with_reducible exact IfExp_ (wpAny_mono q.out (fun c s₁ h => by cases c with
    | true => rw [if_pos rfl] at h ⊢; exact h.out
    | false => rw [if_neg Bool.false_ne_true] at h ⊢; exact h.out) fun _ _ x => x))
/-- an and-test or or-test, of parts that turn the heap -/
def WB (prog : Program) (w : World) (A : Around) (op : BoolOp) (es : List Expr) (p : Pos) (env : Env) (QB : Bool → Shared → Prop) (E : Value → Shared → Prop) (s : Shared) : Prop := ∀ whole, WP prog w A (PySem.isTrue (.BoolOp op es p) env whole) QB E s
theorem WB.use {op : BoolOp} {es : List Expr} (h : WB prog w A op es p env QB E s) (whole : Sem Value) : WP prog w A (PySem.isTrue (.BoolOp op es p) env whole) QB E s := h whole
theorem WB.or {es : List Expr} (q : WP prog w A (PySem.isTrue e env (eval e env)) (fun c s₁ => if c then QB true s₁ else WB prog w A .Or es p env QB E s₁) E s) : WB prog w A .Or (e :: es) p env QB E s := fun whole =>
  .mk (by with_reducible exact isTrue_or (wpAny_mono q.out (fun c s₁ h => by cases c with
    | true => rw [if_pos rfl] at h ⊢; exact h
    | false => rw [if_neg Bool.false_ne_true] at h ⊢; exact (WB.use h whole).out) fun _ _ x => x))
theorem WB.and {es : List Expr} (q : WP prog w A (PySem.isTrue e env (eval e env)) (fun c s₁ => if c then WB prog w A .And es p env QB E s₁ else QB false s₁) E s) : WB prog w A .And (e :: es) p env QB E s := fun whole =>
  .mk (by with_reducible exact isTrue_and (wpAny_mono q.out (fun c s₁ h => by cases c with
    | true => rw [if_pos rfl] at h ⊢; exact (WB.use h whole).out
    | false => rw [if_neg Bool.false_ne_true] at h ⊢; exact h) fun _ _ x => x))
theorem WB.orN (h : QB false s) : WB prog w A .Or [] p env QB E s := fun _ => .mk (by with_reducible exact isTrue_or_nil h)
theorem WB.andN (h : QB true s) : WB prog w A .And [] p env QB E s := fun _ => .mk (by with_reducible exact isTrue_and_nil h)
theorem WB.wp {es : List Expr} {op : BoolOp} (h : WB prog w A op es p env QB E s) : WP prog w A (PySem.isTrue (.BoolOp op es p) env (eval (.BoolOp op es p) env)) QB E s := h _

theorem x_asg {x : Str} (q : WP prog w A (eval e env) (fun v s₁ => WP prog w A (storeName env x v) (fun _ s₂ => WP prog w A (execs rest env) QF E s₂) E s₁) E s) (hs : swapsWith e (some (.Name x p')) p.line env = pure false := by rfl) :
    WP prog w A (execs (.Assign [.Name x p'] e p :: rest) env) QF E s :=
  x_cons (.mk (by (with_reducible refine wpAny_Assign_Name ?_ hs); exact wpAny_mono q.out (fun v s₁ h => wpAny_mono h.out (fun _ s₂ h' => h'.out) fun _ _ x => x) fun _ _ x => x))
theorem x_retW (q : WP prog w A (eval e env) (fun v s₁ => QF (.ret v) s₁) E s) : WP prog w A (execs (.Return (some e) p :: rest) env) QF E s :=
  x_cons (.mk (by (with_reducible refine wpAny_Return_some ?_); exact q.out))
theorem x_ifW (q : WP prog w A (PySem.isTrue t env (eval t env)) (fun c s₁ => if c then WP prog w A (execs b1 env) (Nx prog w A rest env QF E) E s₁ else WP prog w A (execs b2 env) (Nx prog w A rest env QF E) E s₁) E s) : WP prog w A (execs (.If t b1 b2 p :: rest) env) QF E s :=
  x_cons (.mk (by with_reducible exact wpAny_If (wpAny_mono q.out (fun c s₁ h => by cases c with
    | true => rw [if_pos rfl] at h ⊢; exact h.out
    | false => rw [if_neg Bool.false_ne_true] at h ⊢; exact h.out) fun _ _ x => x)))
end

section
variable {prog : Program} {w : World} {loose : List Str} {mean : ExcName → Option Value} {mg mb : Str → Option Value} {A A₀ : Around} {env cenv : Env} {outer : List Env} {base h₀ h : Heap} {L : Addr} {lv : Nat} {ns gl : List Str} {vs vs' : List (Option Value)} {news nw foot rest dl : List (Addr × Obj)} {x y : Str} {v u : Value} {p p' p2 p3 : Pos}
variable {gs : Array GenState} {dr : Drawn} {tk : Nat} {os : OsState} {Q E : Value → Shared → Prop} {e e1 e2 i o : Expr} {pos : Pos} {d l : Addr} {many : Int}

theorem Ev.use' (q : Ev prog w A env h e v) (k : ∀ v' h2 tk', nt v' = v → h.StaysIn h2 → Q v' ⟨h2, gs, dr, tk', os⟩) : WP prog w A (eval e env) Q E ⟨h, gs, dr, tk, os⟩ := q.use h (stays_refl h) gs dr tk os _ _ k
/-- an item of a list at an int place -/
theorem w_item (q : WP prog w A (eval o env) (fun ov s₁ => WP prog w A (eval i env) (fun iv s₂ => ∃ D its n k t v, ov = .ref D ∧ iv = .int k t ∧ s₂.heap.get? D = some (listOf its n) ∧ 0 ≤ k ∧ k < 2 ^ 63 ∧ its[k.toNat]? = some v ∧ Q v s₂) E s₁) E ⟨h, gs, dr, tk, os⟩)
    (hs : ∀ o i, subscripted i' false o i = operate [o, i] (getItem o i)) (he : i = i') : WP prog w A (eval (.Subscript o i p) env) Q E ⟨h, gs, dr, tk, os⟩ := .mk (by
  subst he
  (with_reducible refine Subscript_ (wpAny_mono q.out (fun ov s₁ h₁ => wpAny_mono h₁.out (fun iv s₂ h₂ => ?_) fun _ _ x => x) fun _ _ x => x))
  obtain ⟨D, its, n, k, t, v, rfl, rfl, eD, h0, h1, hx, z⟩ := h₂
  have hL := PySem.IsL.isList (n := n) eD
  exact tail_any hL.typeIs slot_list_getitem.lookup (wpAny_getItem_list hL h0 h1 hx z) (hs _ _))
/-- an item of a call's own tuple, a written place -/
theorem fnAt_K {f : Addr} {oc : Value} {od : Option Addr} {fd : FuncData} {sl : Array (Option Value)} (C : Cx w loose mean mg mb A env outer A₀ base h₀ L lv) (S : St h₀ L h ns vs news) (e : (hd.heap_39 w.params).lookup f = some ⟨oc, od, .func fd, sl⟩) : FnAt f h := ⟨oc, od, fd, sl, K_get C S e⟩

theorem w_take (C : Cx w loose mean mg mb A env outer A₀ base h₀ L (lv + 1)) (G : Gl cenv gl) (hg : Str.ofString "_law_take" ∈ gl) (S : St h₀ L h ns vs (dl ++ rest)) (D : Draw d l dl) (qd : Ev prog w A cenv h e1 (.ref d)) (qm : Ev prog w A cenv h e2 (.int many 0)) (hm : 0 < many)
    (k : ∀ r t h' tk' dl', Draw d l dl' → 0 ≤ r → r < many → St h₀ L h' ns vs (dl' ++ rest) → Q (.int r t) ⟨h', gs, dr, tk', os⟩)
    (he : starEach [e1, e2] cenv = (false, eval e1 cenv) :: starEach [e2] cenv := by rfl) (he2 : starEach [e2] cenv = (false, eval e2 cenv) :: starEach [] cenv := by rfl)
    (hc : eval (.Call (.Name "_law_take" p) [e1, e2] [] pos) cenv = (do callWith pos (← eval (.Name "_law_take" p) cenv) [] (backTo pos (starEach [e1, e2] cenv)) (backToKw pos (keywordEach [] cenv))) := by rfl) :
    WP prog w A (eval (.Call (.Name "_law_take" p) [e1, e2] [] pos) cenv) Q E ⟨h, gs, dr, tk, os⟩ := by
  refine c_fn (a := 345) (Ev.globC G C S (by k_is) hg rfl) (fun h2 tk2 s2 => ?_) (by rw [he, he2]; rfl) he hc
  have S2 := S.grow s2
  refine sp_p (qd.grow s2) (fun v' h3 tk3 n3 s3 => ?_) he
  obtain rfl := nt_ref n3
  refine sp_p ((qm.grow s2).grow s3) (fun v' h4 tk4 n4 s4 => ?_) he2
  obtain ⟨t4, rfl⟩ := nt_int n4
  have S4 := (S2.grow s3).grow s4
  exact sp_n ⟨fnAt_K C S4 (by k_is), (take_ok C S4 D hm k).out⟩
theorem w_varint {n : Nat} (C : Cx w loose mean mg mb A env outer A₀ base h₀ L (lv + 1)) (G : Gl cenv gl) (hg : Str.ofString "_law_varint" ∈ gl) (S : St h₀ L h ns vs rest) (qm : Ev prog w A cenv h e2 (.int n 0)) (hn : n < 128 ^ 11)
    (k : ∀ t h' tk', St h₀ L h' ns vs rest → Q (.bytes (byteArr (vEnc n)) t) ⟨h', gs, dr, tk', os⟩)
    (he2 : starEach [e2] cenv = (false, eval e2 cenv) :: starEach [] cenv := by rfl)
    (hc : eval (.Call (.Name "_law_varint" p) [e2] [] pos) cenv = (do callWith pos (← eval (.Name "_law_varint" p) cenv) [] (backTo pos (starEach [e2] cenv)) (backToKw pos (keywordEach [] cenv))) := by rfl) :
    WP prog w A (eval (.Call (.Name "_law_varint" p) [e2] [] pos) cenv) Q E ⟨h, gs, dr, tk, os⟩ := by
  refine c_fn (a := 352) (Ev.globC G C S (by k_is) hg rfl) (fun h2 tk2 s2 => ?_) (by rw [he2]; rfl) he2 hc
  have S2 := S.grow s2
  refine sp_p (qm.grow s2) (fun v' h4 tk4 n4 s4 => ?_) he2
  obtain ⟨t4, rfl⟩ := nt_int n4
  have S4 := S2.grow s4
  exact sp_n ⟨fnAt_K C S4 (by k_is), (varint_ok C S4 k hn).out⟩
end
end Mine
end
section
open PySem PySem.Spec PySem.Calls PySem.W PyProof.Rows
open LCg (NsObj ns_obj fr_but)
set_option maxRecDepth 100000
set_option linter.unusedVariables false
namespace Mine

section
variable {h₀ h : Heap} {L : Addr} {ns : List Str} {vs : List (Option Value)} {a b : List (Addr × Obj)} {q : Addr × Obj}
theorem St.re (S : St h₀ L h ns vs a) (p : a.Perm b) : St h₀ L h ns vs b := S.perm (fun q hq => p.mem_iff.mpr hq) ((p.map _).nodup_iff.mp S.nd)
theorem St.left (S : St h₀ L h ns vs (a ++ b)) : St h₀ L h ns vs a := S.perm (fun q hq => List.mem_append.mpr (.inl hq)) (by
  have nd := S.nd
  rw [List.map_append, List.nodup_append] at nd
  exact nd.1)
theorem St.right (S : St h₀ L h ns vs (a ++ b)) : St h₀ L h ns vs b := S.perm (fun q hq => List.mem_append.mpr (.inr hq)) (by
  have nd := S.nd
  rw [List.map_append, List.nodup_append] at nd
  exact nd.2.1)
theorem St.rot (S : St h₀ L h ns vs (q :: a)) : St h₀ L h ns vs (a ++ [q]) := S.re (List.perm_append_singleton q a).symm
theorem St.mid (S : St h₀ L h ns vs (q :: (a ++ b))) : St h₀ L h ns vs (a ++ q :: b) := S.re List.perm_middle.symm
theorem St.comm (S : St h₀ L h ns vs (a ++ b)) : St h₀ L h ns vs (b ++ a) := S.re List.perm_append_comm
end

section
variable {prog : Program} {w : World} {loose : List Str} {mean : ExcName → Option Value} {mg mb : Str → Option Value} {A A₀ : Around} {env cenv : Env} {outer : List Env} {base h₀ h : Heap} {L : Addr} {lv : Nat} {ns gl : List Str} {vs vs' : List (Option Value)} {news nw foot rest dl : List (Addr × Obj)} {x y : Str} {v u : Value} {p p' p2 p3 : Pos}
variable {gs : Array GenState} {dr : Drawn} {tk : Nat} {os : OsState} {Q E : Value → Shared → Prop} {e e1 e2 i o : Expr} {pos : Pos} {d l : Addr} {many : Int}

theorem w_list {es : List Expr} {ws : List Value} (S : St h₀ L h ns vs news) (q : EvL prog w A cenv h es ws) (hz : ws.length ≤ 16777216)
    (k : ∀ D (ws' : List Value) h' tk', ws'.map nt = ws → St h₀ L h' ns vs ((D, listOf ws'.toArray 0) :: news) → h.StaysIn h' → Q (.ref D) ⟨h', gs, dr, tk', os⟩) : WP prog w A (eval (.List es p) cenv) Q E ⟨h, gs, dr, tk, os⟩ := .mk (by
  with_reducible refine List_ (q.use h (stays_refl h) gs dr tk os _ _ _ fun ws' h2 tk' e1 s2 => ?_).out
  refine (c_newlist (prog := prog) (w := w) (A := A) (S.grow s2) (fun D h' tk' S' st l => k D ws' h' tk' e1 S' (stays_trans s2 st)) ?_).out
  rw [← e1, List.length_map] at hz; exact hz)
theorem w_tuple {es : List Expr} {ws : List Value} {kk : Nat} (S : St h₀ L h ns vs news) (q : EvL prog w A cenv h es ws) (hz : ws.length ≤ 16777216)
    (k : ∀ D (ws' : List Value) h' tk', ws'.map nt = ws → St h₀ L h' ns vs ((D, { cls := .type "tuple", data := .seq ws'.toArray }) :: news) → h.StaysIn h' → Q (.ref D) ⟨h', gs, dr, tk', os⟩) : WP prog w A (eval (.Tuple es kk p) cenv) Q E ⟨h, gs, dr, tk, os⟩ := .mk (by
  with_reducible refine Tuple_ (q.use h (stays_refl h) gs dr tk os _ _ _ fun ws' h2 tk' e1 s2 => ?_).out
  refine wpAny_newObj_type ?_ (by show ws'.toArray.size ≤ sizeLine; rw [List.size_toArray, sizeLine_eq]; rw [← e1, List.length_map] at hz; exact hz)
  exact k _ ws' _ _ e1 ((S.grow s2).push _) (stays_trans s2 fun b o' e => Heap.get?_push_of_some _ e))

theorem intsOf {ws : List Value} {is : List Int} (h : ws.map nt = is.map fun i => .int i 0) : IntsAre ws is := by
  induction is generalizing ws with
  | nil => rw [List.map_nil, List.map_eq_nil_iff] at h; subst h; exact .nil
  | cons i is ih =>
    match ws, h with
    | a :: ws, h =>
      simp only [List.map_cons, List.cons.injEq] at h
      obtain ⟨t, rfl⟩ := nt_int h.1
      exact .cons _ _ (ih h.2)

/-- _law_number -/
theorem number_ok (C : Cx w loose mean mg mb A env outer A₀ base h₀ L (lv + 2)) (S : St h₀ L h ns vs (dl ++ rest)) (D : Draw d l dl)
    (k : ∀ n t h' tk' dl', Draw d l dl' → 1 ≤ n → n ≤ 536870911 → St h₀ L h' ns vs (dl' ++ rest) → Q (.int n t) ⟨h', gs, dr, tk', os⟩) : WP prog w A (PySem.call (.ref 376) [.ref d]) Q E ⟨h, gs, dr, tk, os⟩ := by
  refine call_fn (foot := dl) (rest := rest) (args := ⟨[.ref d], []⟩) (binds := [(Str.ofString "draw", .ref d)]) (Rel := fun v nw => ∃ n t, v = .int n t ∧ 1 ≤ n ∧ n ≤ 536870911 ∧ Draw d l nw) (ns' := [Str.ofString "draw"]) (gl' := [Str.ofString "_law_take"]) (vs' := [some (.ref d)]) C S (K_get C S (by k_is)) rfl (K_code C S (by k_is)) (BindsTo.of_eq rfl) (locs rfl) (by decide)
    (fnEnv_of rfl (by decide +kernel) (by decide +kernel) (by decide +kernel) (by decide +kernel)) (hvs_of (ps := [Str.ofString "draw"]) (args := [.ref d]) (by decide +kernel) rfl []) ?_ ?_
  · intro g L' h₁ tk₁ env' A' he hA C' N' S' kp Q' E' ret
    clear he hA kp
    refine x_retW (w_bin (Ev.use' Ev.int fun v1 h2 tk2 n2 s2 => ?_))
    obtain ⟨t1, rfl⟩ := nt_int n2
    have S2 := S'.grow s2
    refine c_fn (a := 345) (Ev.globC N'.gl C' S2 (by k_is) (.head _) rfl) (fun h3 tk3 s3 => ?_)
    have S3 := S2.grow s3
    refine sp_p (Ev.loc N' S3 .hd) fun v' h4 tk4 n4 s4 => ?_
    obtain rfl := nt_ref n4
    have S4 := S3.grow s4
    refine sp_i (w_item (w_list (ws := [.int 15 0, .int 2047 0, .int 262143 0, .int 33554431 0, .int 536870911 0]) S4 (.cons Ev.int (.cons Ev.int (.cons Ev.int (.cons Ev.int (.cons Ev.int .nil))))) (by decide) fun D5 ws5 h5 tk5 e5 S5 st5 => ?_) (fun _ _ => by with_unfolding_all rfl) rfl)
    have hi5 : IntsAre ws5 [15, 2047, 262143, 33554431, 536870911] := intsOf e5
    refine w_take C' N'.gl (.head _) S5.rot D (Ev.loc N' S5 .hd) Ev.int (by decide) fun r6 t6 h6 tk6 dl6 D6 h60 h61 S6 => ?_
    obtain ⟨x, hx, i7, t7, rfl, p7, p8⟩ : ∃ x, ws5.toArray[r6.toNat]? = some x ∧ ∃ i t, x = .int i t ∧ 0 < i ∧ i ≤ 536870911 := by
      cases hi5 with | cons _ t1 r => cases r with | cons _ t2 r => cases r with | cons _ t3 r => cases r with | cons _ t4 r => cases r with | cons _ t5 r => cases r with | nil =>
        have : r6 = 0 ∨ r6 = 1 ∨ r6 = 2 ∨ r6 = 3 ∨ r6 = 4 := by omega
        rcases this with rfl | rfl | rfl | rfl | rfl <;> exact ⟨_, rfl, _, _, rfl, by decide, by decide⟩
    refine ⟨_, _, _, _, _, _, rfl, rfl, S6.get (List.mem_append.mpr (.inr (.head _))), h60, by omega, hx, ?_⟩
    refine (sp_n ⟨fnAt_K C' S6 (by k_is), ?_⟩).out
    refine (take_ok C' S6 D6 p7 fun r8 t8 h8 tk8 dl8 D8 h80 h81 S8 => ?_).out
    refine .mk (add_int ?_)
    exact ret _ _ _ _ _ _ S8.left ⟨_, _, rfl, by omega, by omega, D8⟩
  · rintro v h' tk' news' ⟨n, t, rfl, h1, h2, D'⟩ S'
    exact k n t h' tk' news' D' h1 h2 S'
end
end Mine
end
section
open PySem PySem.Spec PySem.Calls PySem.W PyProof.Rows
open LCg (NsObj ns_obj fr_but)
set_option maxRecDepth 100000
set_option linter.unusedVariables false
namespace Mine

section
variable {prog : Program} {w : World} {loose : List Str} {mean : ExcName → Option Value} {mg mb : Str → Option Value} {A A₀ : Around} {env cenv : Env} {outer : List Env} {base h₀ h : Heap} {L : Addr} {lv : Nat} {ns gl : List Str} {vs vs' : List (Option Value)} {news nw foot rest dl : List (Addr × Obj)} {x y : Str} {v u : Value} {p p' p2 p3 : Pos}
variable {gs : Array GenState} {dr : Drawn} {tk : Nat} {os : OsState} {Q E : Value → Shared → Prop} {e e1 e2 i o : Expr} {pos : Pos} {d l : Addr} {many : Int}

/-- «e in (1, 2, 3)» -/
theorem Ts.inTup {es : List Expr} {is : List Int} {z : Int} {kk : Nat} (q : Ev prog w A cenv h e (.int z 0)) (qs : EvL prog w A cenv h es (is.map fun i => .int i 0)) (hz : is.length ≤ 1000) : Ts prog w A cenv h (.Compare e [.In] [.Tuple es kk p] p') (is.any (· == z)) := fun h1 s1 gs dr tk os Q E k => by
  refine w_tcmp (q.use h1 s1 gs dr tk os _ _ fun v' h2 tk2 n2 s2 => ?_) rfl
  obtain ⟨t2, rfl⟩ := nt_int n2
  refine .mk ?_
  with_reducible refine Tuple_ (qs.use h2 (stays_trans s1 s2) gs dr tk2 os _ _ _ fun ws' h3 tk3 e1 s3 => ?_).out
  have hi := intsOf e1
  refine wpAny_newObj_type ?_ (by show ws'.toArray.size ≤ sizeLine; rw [List.size_toArray, sizeLine_eq, hi.length]; omega)
  have ht : IsTup (h3.push { cls := .type "tuple", data := .seq ws'.toArray }) h3.objs.size ws'.toArray := ⟨_, Heap.get?_push_size _ rfl, rfl, _, rfl⟩
  refine WP.mk (in_tuple_ints (s := ⟨h3.push { cls := .type "tuple", data := .seq ws'.toArray }, gs, dr, tk3, os⟩) (ns := is) ht hi ?_)
  exact .mk (wpAny_truthy_bool (k _ _ (stays_trans s2 (stays_trans s3 fun b o' e => Heap.get?_push_of_some _ e))))
theorem Ts.ninTup {es : List Expr} {is : List Int} {z : Int} {kk : Nat} (q : Ev prog w A cenv h e (.int z 0)) (qs : EvL prog w A cenv h es (is.map fun i => .int i 0)) (hz : is.length ≤ 1000) : Ts prog w A cenv h (.Compare e [.NotIn] [.Tuple es kk p] p') (!(is.any (· == z))) := fun h1 s1 gs dr tk os Q E k => by
  refine w_tcmp (q.use h1 s1 gs dr tk os _ _ fun v' h2 tk2 n2 s2 => ?_) rfl
  obtain ⟨t2, rfl⟩ := nt_int n2
  refine .mk ?_
  with_reducible refine Tuple_ (qs.use h2 (stays_trans s1 s2) gs dr tk2 os _ _ _ fun ws' h3 tk3 e1 s3 => ?_).out
  have hi := intsOf e1
  refine wpAny_newObj_type ?_ (by show ws'.toArray.size ≤ sizeLine; rw [List.size_toArray, sizeLine_eq, hi.length]; omega)
  have ht : IsTup (h3.push { cls := .type "tuple", data := .seq ws'.toArray }) h3.objs.size ws'.toArray := ⟨_, Heap.get?_push_size _ rfl, rfl, _, rfl⟩
  refine WP.mk (notin_tuple_ints (s := ⟨h3.push { cls := .type "tuple", data := .seq ws'.toArray }, gs, dr, tk3, os⟩) (ns := is) ht hi ?_)
  exact .mk (wpAny_truthy_bool (k _ _ (stays_trans s2 (stays_trans s3 fun b o' e => Heap.get?_push_of_some _ e))))

abbrev tupO (ws : List Value) : Obj := { cls := .type "tuple", data := .seq ws.toArray }
theorem map_nt3 {ws : List Value} {a b c : Int} (h : ws.map nt = [.int a 0, .int b 0, .int c 0]) : ∃ t1 t2 t3, ws = [.int a t1, .int b t2, .int c t3] := by
  have z := intsOf (is := [a, b, c]) h
  cases z with | cons _ t1 r => cases r with | cons _ t2 r => cases r with | cons _ t3 r => cases r with | nil => exact ⟨t1, t2, t3, rfl⟩

/-- the kinds -/
def kindTab : List (Int × Int × Int) := [(3, 0, 64), (4, 0, 64), (5, 0, 32), (6, 1, 64), (7, 5, 32), (8, 0, 1), (9, 2, 0), (12, 2, 0), (13, 0, 32), (14, 0, 32), (15, 5, 32), (16, 1, 64), (17, 0, 32), (18, 0, 64)]
def Trip (nw : List (Addr × Obj)) (v : Value) (k : Int × Int × Int) : Prop := ∃ T ta tb tc, v = .ref T ∧ (T, tupO [.int k.1 ta, .int k.2.1 tb, .int k.2.2 tc]) ∈ nw
theorem Trip.mono {nw nw' : List (Addr × Obj)} {v : Value} {k : Int × Int × Int} (h : Trip nw v k) (s : ∀ q ∈ nw, q ∈ nw') : Trip nw' v k := let ⟨T, ta, tb, tc, e, m⟩ := h; ⟨T, ta, tb, tc, e, s _ m⟩
inductive Trips (nw : List (Addr × Obj)) : List Value → List (Int × Int × Int) → Prop
  | nil : Trips nw [] []
  | cons {v k vs ks} : Trip nw v k → Trips nw vs ks → Trips nw (v :: vs) (k :: ks)
theorem Trips.mono {nw nw' : List (Addr × Obj)} {vs : List Value} {ks : List (Int × Int × Int)} (h : Trips nw vs ks) (s : ∀ q ∈ nw, q ∈ nw') : Trips nw' vs ks := by
  induction h with
  | nil => exact .nil
  | cons a _ ih => exact .cons (a.mono s) ih
/-- tuples of three written ints, as arguments -/
def tripE : List (Int × Int × Int) → List Expr → Prop
  | [], [] => True
  | k :: ks, e :: es => (∃ a1 a2 b1 b2 c1 c2 kk p, e = .Tuple [.Constant (.int k.1) a1 a2, .Constant (.int k.2.1) b1 b2, .Constant (.int k.2.2) c1 c2] kk p) ∧ tripE ks es
  | _, _ => False
theorem sp_trips : ∀ (ks : List (Int × Int × Int)) (es : List Expr) (news : List (Addr × Obj)) (h : Heap) (tk : Nat) (R : List Value → Shared → Prop), tripE ks es → St h₀ L h ns vs news →
    (∀ ws nw h' tk', St h₀ L h' ns vs (nw ++ news) → Trips nw ws ks → R ws ⟨h', gs, dr, tk', os⟩) → WP prog w A (spliced (backTo pos (starEach es cenv))) R E ⟨h, gs, dr, tk, os⟩
  | [], [], news, h, tk, R, _, S, k => sp_n (k [] [] h tk S .nil)
  | q :: ks, e :: es, news, h, tk, R, he, S, k => by
    obtain ⟨⟨a1, a2, b1, b2, c1, c2, kk, p, rfl⟩, he⟩ := he
    refine sp_i (w_tuple (ws := [.int q.1 0, .int q.2.1 0, .int q.2.2 0]) S (.cons Ev.int (.cons Ev.int (.cons Ev.int .nil))) (by simp) fun T ws h2 tk2 e2 S2 st2 => ?_)
    obtain ⟨t1, t2, t3, rfl⟩ := map_nt3 e2
    exact (sp_trips ks es _ h2 tk2 _ he S2 fun ws nw h' tk' S' tr => k _ (nw ++ [(T, tupO [.int q.1 t1, .int q.2.1 t2, .int q.2.2 t3])]) h' tk' (by simpa using S') (.cons ⟨T, t1, t2, t3, rfl, by simp⟩ (tr.mono fun q hq => List.mem_append.mpr (.inl hq)))).out
  | [], _ :: _, _, _, _, _, he, _, _ => he.elim
  | _ :: _, [], _, _, _, _, he, _, _ => he.elim

/-- _law_kinds -/
theorem kinds_ok (C : Cx w loose mean mg mb A env outer A₀ base h₀ L (lv + 1)) (S : St h₀ L h ns vs rest)
    (k : ∀ D ws n nw h' tk', Trips nw ws kindTab → St h₀ L h' ns vs ((D, listOf ws.toArray n) :: nw ++ rest) → Q (.ref D) ⟨h', gs, dr, tk', os⟩) : WP prog w A (PySem.call (.ref 359) []) Q E ⟨h, gs, dr, tk, os⟩ := by
  refine call_fn (foot := []) (rest := rest) (args := ⟨[], []⟩) (binds := []) (Rel := fun v nw => ∃ D ws n nw2, v = .ref D ∧ nw = (D, listOf ws.toArray n) :: nw2 ∧ Trips nw2 ws kindTab) (ns' := []) (gl' := []) (vs' := []) C S (K_get C S (by k_is)) rfl (K_code C S (by k_is)) (BindsTo.of_eq rfl) (locs rfl) (by decide)
    (fnEnv_of rfl (by decide +kernel) (by decide +kernel) (by decide +kernel) (by decide +kernel)) (hvs_of (ps := []) (args := []) (by decide +kernel) rfl []) ?_ ?_
  · intro g L' h₁ tk₁ env' A' he hA C' N' S' kp Q' E' ret
    clear he hA kp
    refine x_retW (.mk ?_)
    with_reducible refine List_ (WP.out ?_)
    refine sp_trips (ns := []) (vs := []) kindTab _ [] h₁ tk₁ _ ?_ S' fun ws nw h' tk' S2 tr => ?_
    · simp only [kindTab, tripE]
      repeat' apply And.intro
      all_goals first | exact ⟨_, _, _, _, _, _, _, _, rfl⟩ | exact trivial
    · have hl : ws.length = 14 := by
        cases tr with | cons _ r => cases r with | cons _ r => cases r with | cons _ r => cases r with | cons _ r => cases r with | cons _ r => cases r with | cons _ r => cases r with | cons _ r => cases r with | cons _ r => cases r with | cons _ r => cases r with | cons _ r => cases r with | cons _ r => cases r with | cons _ r => cases r with | cons _ r => cases r with | cons _ r => cases r with | nil => rfl
      refine (c_newlist (prog := prog) (w := w) (A := A') S2 (fun D h3 tk3 S3 st3 l3 => ?_) (by omega)).out
      exact ret _ _ _ _ _ _ S3 ⟨D, ws, 0, nw ++ [], rfl, rfl, tr.mono fun q hq => List.mem_append.mpr (.inl hq)⟩
  · rintro v h' tk' news' ⟨D, ws, n, nw, rfl, rfl, tr⟩ S'
    exact k D ws n nw h' tk' tr S'
end
end Mine
end
section
open PySem PySem.Spec PySem.Calls PySem.W PyProof.Rows
open LCg (NsObj ns_obj fr_but)
set_option maxRecDepth 100000
set_option linter.unusedVariables false
namespace Mine

theorem fnEnv_ofG {qual : Str} {scope : Scope} {f : Addr} {cdv : Value} {cl : List (Str × Addr)} {ns gl : List Str} (hk : scope.kind = .function) (nd : ns.Nodup) (loc : ∀ x ∈ ns, scope.names.lookup x = some .local)
    (glo : ∀ x ∈ gl, scope.names.lookup x = some .globalImplicit) (dbg : ∀ x ∈ ns ++ gl, (x == ("__debug__" : Str)) = false) (L' : Addr) : FnEnv (envG qual scope L' f cdv cl) L' ns gl :=
  ⟨hk, rfl, rfl, rfl, rfl, nd, loc, glo, dbg⟩

def isU (k : Int) : Prop := k = 4 ∨ k = 6 ∨ k = 7 ∨ k = 13
def isS (k : Int) : Prop := k = 3 ∨ k = 5 ∨ k = 15 ∨ k = 16 ∨ k = 17 ∨ k = 18
/-- the five texts' code points and octets -/
def texts : List (List Nat × List UInt8) := [([], []), ([97], [97]), ([252], [195, 188]), ([20013, 0], [228, 184, 173, 0]), ([128512, 98], [240, 159, 152, 128, 98])]
def SOk (s : Str) (u : List UInt8) : Prop := ∃ b ∈ texts, ∃ r < 4, s = ⟨((List.replicate r b.1).flatten).toArray⟩ ∧ u = (List.replicate r b.2).flatten
/-- what _law_value gives -/
inductive VOk : Int → Int → Value → Prop
  | bool {b} : VOk 8 1 (.bool b)
  | str {s u t} : SOk s u → VOk 9 0 (.str s t)
  | byt {bs t} : bs.size ≤ 4 → VOk 12 0 (.bytes bs t)
  | uns {k n t} {b : Nat} : isU k → (b = 32 ∨ b = 64) → 0 ≤ n → n < 2 ^ b → VOk k b (.int n t)
  | sig {k n t} {b : Nat} : isS k → (b = 32 ∨ b = 64) → -2 ^ (b - 1) ≤ n → n < 2 ^ (b - 1) → VOk k b (.int n t)
def KB (k b : Int) : Prop := (k = 8 ∧ b = 1) ∨ (k = 9 ∧ b = 0) ∨ (k = 12 ∧ b = 0) ∨ (isU k ∧ (b = 32 ∨ b = 64)) ∨ (isS k ∧ (b = 32 ∨ b = 64))

theorem fold_app (x : Array Nat) : ∀ (n : Nat) (acc : Array Nat), ((List.replicate n x).foldl (· ++ ·) acc).toList = acc.toList ++ (List.replicate n x.toList).flatten
  | 0, acc => by simp
  | n + 1, acc => by rw [List.replicate_succ, List.foldl_cons, fold_app x n]; simp [List.replicate_succ]
theorem fold_rep (x : Array Nat) (n : Nat) : (List.replicate n x).foldl (· ++ ·) #[] = ((List.replicate n x.toList).flatten).toArray := by
  apply Array.toList_inj.mp
  rw [fold_app]; simp

section
variable {prog : Program} {w : World} {loose : List Str} {mean : ExcName → Option Value} {mg mb : Str → Option Value} {A A₀ : Around} {env cenv : Env} {outer : List Env} {base h₀ h : Heap} {L : Addr} {lv : Nat} {ns gl : List Str} {vs vs' : List (Option Value)} {news nw foot rest dl : List (Addr × Obj)} {x y : Str} {v u : Value} {p p' p2 p3 : Pos}
variable {gs : Array GenState} {dr : Drawn} {tk : Nat} {os : OsState} {Q E : Value → Shared → Prop} {e e1 e2 i o : Expr} {pos : Pos} {d l : Addr} {many : Int}

/-- a text, 0 to 3 times -/
theorem mul_text {s : Str} {t u : Tok} {n : Int} {s0 : Shared} (h0 : 0 ≤ n) (h1 : n < 4) (hs : s.cps.size ≤ 2) (k : ∀ z t' tk', z = (⟨((List.replicate n.toNat s.cps.toList).flatten).toArray⟩ : Str) → Q (.str z t') { s0 with toks := tk' }) : WP prog w A (binaryOp .Mult (.str s t) (.int n u)) Q E s0 := .mk (by
  refine P.mul_str ?_ (fun hn hn1 => ?_) (fun hn hn1 => ?_) ?_
  · have : ¬ n < -(2 ^ 63 : Int) := by omega
    have : ¬ n ≥ 2 ^ 63 := by omega
    rw [decide_eq_false (by omega), decide_eq_false (by omega)]; rfl
  · have h3 : (2 ^ 63 - 1) / n ≥ 3 := by
      have : n = 1 ∨ n = 2 ∨ n = 3 := by omega
      rcases this with rfl | rfl | rfl <;> decide
    have : (s.length : Int) ≤ 2 := by show ((s.cps.size : Nat) : Int) ≤ 2; omega
    omega
  · show decide (_ > sizeLine) = false
    rw [sizeLine_eq]
    have h4 : s.length * n.toNat ≤ 2 * 4 := Nat.mul_le_mul (by exact hs) (by omega)
    simp; omega
  · split
    · rename_i hn
      have : n = 0 := by omega
      subst this
      exact ⟨by decide, k _ _ _ (by simp [Str.empty])⟩
    · split
      · rename_i hn hq
        rcases Bool.or_eq_true_iff.mp hq with e | e
        · have : n = 1 := by simpa using e
          subst this
          exact k _ t s0.toks (by simp)
        · have e1 : s.cps.size = 0 := by simpa [Str.length] using e
          have e2 : s.cps = #[] := Array.eq_empty_of_size_eq_zero e1
          refine k _ t s0.toks ?_
          obtain ⟨c⟩ := s
          simp at e2
          subst e2
          simp
      · rw [fold_rep]
        refine ⟨?_, k _ _ _ rfl⟩
        rw [sizeLine_eq]
        show (List.toArray _).size ≤ _
        rw [List.size_toArray, List.length_flatten]
        have h4 : s.length * n.toNat ≤ 2 * 4 := Nat.mul_le_mul (by exact hs) (by omega)
        simp [List.map_replicate, List.sum_replicate_nat] 
        have : s.cps.size = s.length := rfl
        rw [this]
        rw [Nat.mul_comm] at h4
        omega)

theorem value_ok {kind bits : Int} {u u2 : Tok} (C : Cx w loose mean mg mb A env outer A₀ base h₀ L (lv + 2)) (S : St h₀ L h ns vs (dl ++ rest)) (D : Draw d l dl) (hkb : KB kind bits)
    (k : ∀ v h' tk' dl', VOk kind bits v → Draw d l dl' → St h₀ L h' ns vs (dl' ++ rest) → Q v ⟨h', gs, dr, tk', os⟩) : WP prog w A (PySem.call (.ref 364) [.ref d, .int kind u, .int bits u2]) Q E ⟨h, gs, dr, tk, os⟩ := by
  refine call_g (cl := []) (foot := dl) (rest := rest) (args := ⟨[.ref d, .int kind u, .int bits u2], []⟩) (binds := [(Str.ofString "draw", .ref d), (Str.ofString "kind", .int kind u), (Str.ofString "bits", .int bits u2)]) (Rel := fun v nw => VOk kind bits v ∧ Draw d l nw) (ns' := [Str.ofString "kind", Str.ofString "bits", Str.ofString "way", Str.ofString "number"]) (gl' := [Str.ofString "_law_take", Str.ofString "bytes", Str.ofString "range"]) C S (K_get C S (by k_is)) rfl (K_code C S (by k_is)) (BindsTo.of_eq rfl)
    (fnEnv_ofG rfl (by decide +kernel) (by decide +kernel) (by decide +kernel) (by decide +kernel)) (vs2 := fun _ => [some (.int kind 0), some (.int bits 0), none, none]) (nw2 := fun L' => [(L' + 1, cellO (some (.ref d)))] ++ (dl)) (fun L' => (.cel (by kernel_rfl) (by kernel_rfl) .hd (.loc .hd (.loc (.tl .hd) .nil)))) ?_ ?_
  · intro g L' h₁ tk₁ env' A' he hA C' N' S' kp Q' E' ret
    have ce : CE env' (Str.ofString "draw") (L' + 1) := ⟨.inl (by rw [he]; kernel_rfl), by rw [he]; kernel_rfl, by decide +kernel, by decide +kernel⟩
    clear hA kp
    have S0 : St g L' h₁ _ _ (dl ++ [(L' + 1, cellO (some (.ref d)))]) := S'.rot
    refine x_if (Ts.eq (Ev.loc N' S0 .hd) Ev.int) (fun hc h2 tk2 s2 => ?_) fun hc h2 tk2 s2 => ?_
    · have S2 := S0.grow s2
      have hk8 : kind = 8 := by simpa using hc
      refine x_retW (w_cmp (w_take C' N'.gl (.head _) S2 D (Ev.cell N'.kind ce S2 (List.mem_append.mpr (.inr (.head _))) rfl) Ev.int (by decide) fun r t h3 tk3 dl3 D3 h30 h31 S3 => Ev.use' Ev.int fun v4 h4 tk4 n4 s4 => ?_) rfl)
      obtain ⟨t4, rfl⟩ := nt_int n4
      refine .mk (eq_int ?_)
      refine ret _ _ _ _ _ _ (S3.grow s4).left ⟨?_, D3⟩
      have : bits = 1 := by
        subst hk8
        rcases hkb with ⟨_, e⟩ | ⟨e, _⟩ | ⟨e, _⟩ | ⟨e, _⟩ | ⟨e, _⟩
        · exact e
        · cases e
        · cases e
        · rcases e with e | e | e | e <;> cases e
        · rcases e with e | e | e | e | e | e <;> cases e
      subst hk8 this
      exact .bool
    refine x_nil ?_
    have S2 := S0.grow s2
    have hk8 : kind ≠ 8 := by simpa using hc
    clear s2 S0 hc S'
    refine (x_if (Ts.eq (Ev.loc N' S2 .hd) Ev.int) (fun hc h3 tk3 s3 => ?_) fun hc h3 tk3 s3 => ?_).out
    · have S3 := S2.grow s3
      have hk9 : kind = 9 := by simpa using hc
      refine x_retW (w_bin (w_item (w_list S3 (.cons Ev.cstr (.cons Ev.cstr (.cons Ev.cstr (.cons Ev.cstr (.cons Ev.cstr .nil))))) (by decide) fun D5 ws5 h5 tk5 e5 S5 st5 => ?_) (fun _ _ => by with_unfolding_all rfl) rfl))
      refine w_take C' N'.gl (.head _) S5.mid D (Ev.cell N'.kind ce S5 (.tail _ (List.mem_append.mpr (.inr (.head _)))) rfl) Ev.int (by decide) fun r6 t6 h6 tk6 dl6 D6 h60 h61 S6 => ?_
      obtain ⟨b, hb, t7, hx, hb2⟩ : ∃ b ∈ texts, ∃ t, ws5.toArray[r6.toNat]? = some (.str ⟨b.1.toArray⟩ t) ∧ b.1.toArray.size ≤ 2 := by
        have key : ∀ (i : Nat) (lit : Str) (b : List Nat × List UInt8), (ws5.map nt)[i]? = some (.str lit 0) → lit = ⟨b.1.toArray⟩ → ∃ t, ws5.toArray[i]? = some (.str ⟨b.1.toArray⟩ t) := fun i lit b h hl => by
          rw [List.getElem?_map] at h
          obtain ⟨v, hv, hn⟩ := Option.map_eq_some_iff.mp h
          obtain ⟨t, rfl⟩ := nt_str hn
          exact ⟨t, by rw [List.getElem?_toArray, hv, hl]⟩
        rw [e5] at key
        have : r6 = 0 ∨ r6 = 1 ∨ r6 = 2 ∨ r6 = 3 ∨ r6 = 4 := by omega
        rcases this with rfl | rfl | rfl | rfl | rfl
        · obtain ⟨t, ht⟩ := key 0 _ ([], []) rfl (by decide +kernel); exact ⟨_, by decide, t, ht, by decide⟩
        · obtain ⟨t, ht⟩ := key 1 _ ([97], [97]) rfl (by decide +kernel); exact ⟨_, by decide, t, ht, by decide⟩
        · obtain ⟨t, ht⟩ := key 2 _ ([252], [195, 188]) rfl (by decide +kernel); exact ⟨_, by decide, t, ht, by decide⟩
        · obtain ⟨t, ht⟩ := key 3 _ ([20013, 0], [228, 184, 173, 0]) rfl (by decide +kernel); exact ⟨_, by decide, t, ht, by decide⟩
        · obtain ⟨t, ht⟩ := key 4 _ ([128512, 98], [240, 159, 152, 128, 98]) rfl (by decide +kernel); exact ⟨_, by decide, t, ht, by decide⟩
      refine ⟨_, _, _, _, _, _, rfl, rfl, S6.get (List.mem_append.mpr (.inr (.head _))), h60, by omega, hx, ?_⟩
      refine w_take C' N'.gl (.head _) S6 D6 (Ev.cell N'.kind ce S6 (List.mem_append.mpr (.inr (.tail _ (.head _)))) rfl) Ev.int (by decide) fun r8 t8 h8 tk8 dl8 D8 h80 h81 S8 => ?_
      refine mul_text h80 h81 hb2 fun z t9 tk9 hz => ?_
      refine ret _ _ _ _ _ _ S8.left ⟨?_, D8⟩
      have : bits = 0 := by
        subst hk9
        rcases hkb with ⟨e, _⟩ | ⟨_, e⟩ | ⟨e, _⟩ | ⟨e, _⟩ | ⟨e, _⟩
        · cases e
        · exact e
        · cases e
        · rcases e with e | e | e | e <;> cases e
        · rcases e with e | e | e | e | e | e <;> cases e
      subst hk9 this
      exact .str ⟨b, hb, r8.toNat, by omega, hz, rfl⟩
    refine x_nil ?_
    have S3 := S2.grow s3
    have hk9 : kind ≠ 9 := by simpa using hc
    clear s3 S2 hc
    refine (x_if (Ts.eq (Ev.loc N' S3 .hd) Ev.int) (fun hc h4 tk4 s4 => ?_) fun hc h4 tk4 s4 => ?_).out
    · have S4 := S3.grow s4
      have hk12 : kind = 12 := by simpa using hc
      refine x_retW (c_ty (Ev.bi N' C' S4 (by k_is) (.tail _ (.head _)) PyProof.Rows.Boot.«bytes» (by decide) rfl) fun h5 tk5 s5 => ?_)
      have S5 := S4.grow s5
      refine sp_i (c_comp (h₀ := g) (L := L') (ns := [Str.ofString "kind", Str.ofString "bits", Str.ofString "way", Str.ofString "number"]) (vs := [some (.int kind 0), some (.int bits 0), none, none]) (gs := gs) (dr := dr) (os := os) (cl := [(Str.ofString "draw", L' + 1)]) (closure_of (by rw [he]; kernel_rfl)) (by decide +kernel) rfl (by decide +kernel) ?_)
      refine c_ty (Ev.bi N' C' S5 (by k_is) (.tail _ (.tail _ (.head _))) PyProof.Rows.Boot.«range» (by decide) rfl) fun h6 tk6 s6 => ?_
      have S6 := S5.grow s6
      refine sp_i (w_take C' N'.gl (.head _) S6 D (Ev.cell N'.kind ce S6 (List.mem_append.mpr (.inr (.head _))) rfl) Ev.int (by decide) fun r7 t7 h7 tk7 dl7 D7 h70 h71 S7 => ?_)
      refine (sp_n ?_).out
      refine call_range_1 ?_
      have S8 := S7.push { cls := .type "range", data := .fields #[.int 0 tk7, .int r7 t7, .int 1 (tk7 + 1)] }
      refine it_range C'.hand S8 (IsRange.new ..) h70 (by omega) fun I oI h9 S9 st9 W sx => ?_
      have S10 : St g L' h9 _ _ ((I, oI) :: (dl7 ++ [(L' + 1, cellO (some (.ref d)))])) := S9.perm (fun q hq => by
        rcases List.mem_cons.mp hq with rfl | hq
        · exact .head _
        · exact .tail _ (.tail _ hq)) (by
        have nd := S9.nd
        simp only [List.map_cons, List.nodup_cons, List.mem_cons, not_or] at nd ⊢
        exact ⟨nd.1.2, nd.2.2⟩)
      refine ⟨I, oI, _, _, _, _, _, (fun i ys nw => ∃ dl is, nw = dl ++ [(L' + 1, cellO (some (.ref d)))] ∧ Draw d l dl ∧ IntsAre ys is ∧ (∀ x ∈ is, 0 ≤ x ∧ x < 256) ∧ ys.length = i), h9, _, _, rfl, rfl, W, by omega, S10, sx, ⟨dl7, [], rfl, D7, .nil, by simp, rfl⟩, fun _ _ _ _ _ _ _ => trivial, CBind.name rfl (by decide +kernel), CTurn.plain ?_, ?_⟩
      · rintro i ys nw tail h tk C oC m v E' hi ⟨t, rfl⟩ ⟨dl, is, rfl, DD, hI, hr, hl⟩ SS hC hm hB
        rw [List.append_assoc] at SS
        have hm' : m (Str.ofString "k") = some (.int (0 + (i : Int) * 1) t) := hB
        refine w_bin (w_bin (w_take (gl := [Str.ofString "_law_take"]) C' (N'.gl.comp rfl (by decide +kernel) (by decide +kernel)) (.head _) SS DD (Ev.cell rfl (CE.comp (c := L' + 1) (by decide +kernel) rfl (by decide +kernel) (by decide +kernel)) SS (List.mem_append.mpr (.inr (.head _))) rfl) Ev.int (by decide) fun r6 t6 h6 tk6 dl6 D6 h60 h61 S6 =>
          Ev.use' (Ev.mul (y := 0 + (i : Int) * 1) Ev.int (Ev.cn S6 (List.mem_append.mpr (.inr (.tail _ hC))) hm hm' rfl (by decide +kernel) (by decide +kernel) rfl) (mulOkL (by decide))) fun v7 h7 tk7 n7 s7 => ?_))
        obtain ⟨t7, rfl⟩ := nt_int n7
        refine .mk (add_int (Ev.use' Ev.int fun v8 h8 tk8 n8 s8 => ?_))
        obtain ⟨t8, rfl⟩ := nt_int n8
        refine .mk (mod_int' (by decide) ?_)
        refine ⟨_, _, dl6 ++ [(L' + 1, cellO (some (.ref d)))], rfl, ?_, dl6, is ++ [Int.fmod (r6 + 91 * (0 + (i : Int) * 1)) 256], rfl, D6, ints_snoc hI, ?_, by simp [hl]⟩
        · rw [List.append_assoc]; exact (S6.grow s7).grow s8
        · intro x hx
          rcases List.mem_append.mp hx with hx | hx
          · exact hr x hx
          · rw [List.mem_singleton.mp hx, Int.fmod_eq_emod_of_nonneg _ (by decide)]; omega
      · rintro D h tk nw' ys yn ⟨dl, is, rfl, DD, hI, hr, hl⟩ SS
        refine (sp_n ?_).out
        have hL := PySem.IsL.isList (n := yn) (SS.get (.head _))
        have hlen := hI.length
        refine call_bytes_ints hL hI hr (by rw [sizeLine_eq]; omega) C'.hand fun h' t k st => ?_
        refine ret _ _ _ _ _ _ ((SS.grow st).drop).left ⟨?_, DD⟩
        have : bits = 0 := by
          subst hk12
          rcases hkb with ⟨e, _⟩ | ⟨e, _⟩ | ⟨_, e⟩ | ⟨e, _⟩ | ⟨e, _⟩
          · cases e
          · cases e
          · exact e
          · rcases e with e | e | e | e <;> cases e
          · rcases e with e | e | e | e | e | e <;> cases e
        subst hk12 this
        refine .byt ?_
        show (byteArr is).size ≤ 4
        simp [byteArr]
        omega
    refine x_nil ?_
    have S4 := S3.grow s4
    have hk12 : kind ≠ 12 := by simpa using hc
    clear s4 S3 hc
    obtain ⟨b, rfl, hb, hus⟩ : ∃ b : Nat, bits = b ∧ (b = 32 ∨ b = 64) ∧ (isU kind ∨ isS kind) := by
      rcases hkb with ⟨e, _⟩ | ⟨e, _⟩ | ⟨e, _⟩ | ⟨e, e2⟩ | ⟨e, e2⟩
      · exact absurd e hk8
      · exact absurd e hk9
      · exact absurd e hk12
      · exact ⟨bits.toNat, by omega, by omega, .inl e⟩
      · exact ⟨bits.toNat, by omega, by omega, .inr e⟩
    have hM : ((2 : Int) ^ b = 4294967296 ∧ (2 : Int) ^ (b - 1) = 2147483648) ∨ ((2 : Int) ^ b = 18446744073709551616 ∧ (2 : Int) ^ (b - 1) = 9223372036854775808) := by rcases hb with rfl | rfl <;> decide
    refine (x_asg (w_take C' N'.gl (.head _) S4 D (Ev.cell N'.kind ce S4 (List.mem_append.mpr (.inr (.head _))) rfl) Ev.int (by decide) fun r5 t5 h5 tk5 dl5 D5 h50 h51 S5 => ?_)).out
    refine st_loc N' S5 (.tl (.tl .hd)) fun h6 tk6 S6 => ?_
    have e1 : ((b : Nat) : Int).toNat = b := by omega
    have e2 : (((b : Nat) : Int) - 1).toNat = b - 1 := by omega
    refine x_asg (WP.mono (Q := fun v s => ∃ n t h tk dl, v = .int n t ∧ s = ⟨h, gs, dr, tk, os⟩ ∧ Draw d l dl ∧ 0 ≤ n ∧ n < 2 ^ b ∧ St g L' h [Str.ofString "kind", Str.ofString "bits", Str.ofString "way", Str.ofString "number"] [some (.int kind 0), some (.int b 0), some (.int r5 0), none] (dl ++ [(L' + 1, cellO (some (.ref d)))])) ?_ ?_)
    · refine w_ite ((Ts.eq (Ev.loc N' S6 (.tl (.tl .hd))) Ev.int).use h6 (stays_refl h6) gs dr tk6 os _ _ fun h7 tk7 s7 => ?_)
      have S7 := S6.grow s7
      split
      · refine w_take C' N'.gl (.head _) S7 D5 (Ev.cell N'.kind ce S7 (List.mem_append.mpr (.inr (.head _))) rfl) Ev.int (by decide) fun r8 t8 h8 tk8 dl8 D8 h80 h81 S8 => ?_
        exact ⟨_, _, _, _, _, rfl, rfl, D8, h80, by omega, S8⟩
      · refine w_ite ((Ts.eq (Ev.loc N' S7 (.tl (.tl .hd))) Ev.int).use h7 (stays_refl h7) gs dr tk7 os _ _ fun h8 tk8 s8 => ?_)
        have S8 := S7.grow s8
        split
        · refine w_take C' N'.gl (.head _) S8 D5 (Ev.cell N'.kind ce S8 (List.mem_append.mpr (.inr (.head _))) rfl) (Ev.shl Ev.int (Ev.loc N' S8 (.tl .hd)) (by omega) (by omega) (by decide)) (by rw [e1]; omega) fun r9 t9 h9 tk9 dl9 D9 h90 h91 S9 => ?_
          exact ⟨_, _, _, _, _, rfl, rfl, D9, h90, by rw [e1] at h91; omega, S9⟩
        · refine w_bin (Ev.use' (Ev.sub (Ev.shl Ev.int (Ev.loc N' S8 (.tl .hd)) (by omega) (by omega) (by decide)) Ev.int) fun v9 h9 tk9 n9 s9 => ?_)
          obtain ⟨t9, rfl⟩ := nt_int n9
          have S9 := S8.grow s9
          refine w_take C' N'.gl (.head _) S9 D5 (Ev.cell N'.kind ce S9 (List.mem_append.mpr (.inr (.head _))) rfl) Ev.int (by decide) fun r10 t10 h10 tk10 dl10 D10 h100 h101 S10 => ?_
          refine .mk (sub_int ?_)
          exact ⟨_, _, _, _, _, rfl, rfl, D10, by rw [e1]; omega, by rw [e1]; omega, S10⟩
    · rintro v s ⟨n, t, h7, tk7, dl7, rfl, rfl, D7, hn0, hn1, S7⟩
      refine st_loc N' S7 (.tl (.tl (.tl .hd))) fun h8 tk8 S8 => ?_
      refine x_if (Ts.inTup (is := [4, 6, 7, 13]) (Ev.loc N' S8 .hd) (.cons Ev.int (.cons Ev.int (.cons Ev.int (.cons Ev.int .nil)))) (by decide)) (fun hc h9 tk9 s9 => ?_) fun hc h9 tk9 s9 => ?_
      · have S9 := S8.grow s9
        refine x_ret (Ev.loc N' S9 (.tl (.tl (.tl .hd)))) fun v10 h10 tk10 n10 s10 => ?_
        obtain ⟨t10, rfl⟩ := nt_int n10
        refine ret _ _ _ _ _ _ (S9.grow s10).left ⟨.uns ?_ hb hn0 hn1, D7⟩
        simp only [List.any_cons, List.any_nil, Bool.or_false, Bool.or_eq_true, beq_iff_eq] at hc
        unfold isU; omega
      · refine x_nil ?_
        have S9 := S8.grow s9
        have hS : isS kind := by
          rcases hus with h | h
          · simp only [List.any_cons, List.any_nil, Bool.or_false, Bool.or_eq_false_iff, beq_eq_false_iff_ne] at hc
            unfold isU at h; omega
          · exact h
        by_cases hge : 1 * 2 ^ (((b : Nat) : Int) - 1).toNat ≤ n
        · refine (x_ret (Ev.ite (c := decide (1 * 2 ^ (((b : Nat) : Int) - 1).toNat ≤ n)) (v := .int (n - 1 * 2 ^ ((b : Nat) : Int).toNat) 0) (Ts.ge (Ev.loc N' S9 (.tl (.tl (.tl .hd)))) (Ev.shl Ev.int (Ev.sub (Ev.loc N' S9 (.tl .hd)) Ev.int) (by omega) (by omega) (by decide)))
            (fun _ => Ev.sub (Ev.loc N' S9 (.tl (.tl (.tl .hd)))) (Ev.shl Ev.int (Ev.loc N' S9 (.tl .hd)) (by omega) (by omega) (by decide))) (fun hf => absurd hge (by simpa using hf))) fun v10 h10 tk10 n10 s10 => ?_).out
          obtain ⟨t10, rfl⟩ := nt_int n10
          refine ret _ _ _ _ _ _ (S9.grow s10).left ⟨.sig hS hb ?_ ?_, D7⟩
          · rw [e1]; rw [e2] at hge; omega
          · rw [e1]; rw [e2] at hge; omega
        · refine (x_ret (Ev.ite (c := decide (1 * 2 ^ (((b : Nat) : Int) - 1).toNat ≤ n)) (v := .int n 0) (Ts.ge (Ev.loc N' S9 (.tl (.tl (.tl .hd)))) (Ev.shl Ev.int (Ev.sub (Ev.loc N' S9 (.tl .hd)) Ev.int) (by omega) (by omega) (by decide)))
            (fun hf => absurd (by simpa using hf) hge) (fun _ => Ev.loc N' S9 (.tl (.tl (.tl .hd))))) fun v10 h10 tk10 n10 s10 => ?_).out
          obtain ⟨t10, rfl⟩ := nt_int n10
          refine ret _ _ _ _ _ _ (S9.grow s10).left ⟨.sig hS hb ?_ ?_, D7⟩
          · rw [e2] at hge; omega
          · rw [e2] at hge; omega
  · rintro v h' tk' news' ⟨hv, D'⟩ S'
    exact k v h' tk' news' hv D' S'
end
end Mine
end
section
open PySem PySem.Spec PySem.Calls PySem.W PyProof.Rows
open LCg (NsObj ns_obj fr_but)
set_option maxRecDepth 100000
set_option maxHeartbeats 4000000
set_option linter.unusedVariables false
namespace Mine

/-- a number's octets -/
def vB (n : Nat) : List UInt8 := (vEnc n).map fun i => i.toNat.toUInt8
theorem vB_arr (n : Nat) : byteArr (vEnc n) = (vB n).toArray := rfl
/-- k octets of a number, the least first -/
def leI (k n : Nat) : List Int := (List.range k).map fun i => ((n / 2 ^ (8 * i) % 256 : Nat) : Int)
def leB (k n : Nat) : List UInt8 := (leI k n).map fun i => i.toNat.toUInt8
/-- what _law_bare gives -/
inductive BOk : Int → Value → List UInt8 → Prop
  | str {s u t} : SOk s u → BOk 9 (.str s t) (vB u.length ++ u)
  | byt {bs t} : bs.size ≤ 4 → BOk 12 (.bytes bs t) (vB bs.size ++ bs.toList)
  | zz {k n t} : (k = 17 ∨ k = 18) → BOk k (.int n t) (vB (if 0 ≤ n then 2 * n else -2 * n - 1).toNat)
  | f4 {k n t} : (k = 7 ∨ k = 15) → BOk k (.int n t) (leB 4 (n % 2 ^ 32).toNat)
  | f8 {k n t} : (k = 6 ∨ k = 16) → BOk k (.int n t) (leB 8 (n % 2 ^ 64).toNat)
  | bool {b} : BOk 8 (.bool b) [if b then 1 else 0]
  | var {k n t} : (k = 3 ∨ k = 4 ∨ k = 5 ∨ k = 13) → BOk k (.int n t) (vB (n % 2 ^ 64).toNat)

theorem SOk.cases {P : Str → List UInt8 → Prop} (h : ∀ b ∈ texts, ∀ r < 4, P ⟨((List.replicate r b.1).flatten).toArray⟩ ((List.replicate r b.2).flatten)) {s : Str} {u : List UInt8} (q : SOk s u) : P s u := by
  obtain ⟨b, hb, r, hr, rfl, rfl⟩ := q
  exact h b hb r hr
theorem enc_tree {s : Str} {u : List UInt8} {t t' : Tok} (q : SOk s u) : Builtin.«str.encode» ⟨[.str s t, .str (Str.ofString "utf-8") t'], []⟩ = (do ret (← mkBytes u.toArray)) := by
  obtain ⟨b, hb, r, hr, rfl, rfl⟩ := q
  have h4 : r = 0 ∨ r = 1 ∨ r = 2 ∨ r = 3 := by omega
  simp only [texts, List.mem_cons, List.not_mem_nil, or_false] at hb
  rcases hb with rfl | rfl | rfl | rfl | rfl <;> rcases h4 with rfl | rfl | rfl | rfl <;> kernel_rfl
theorem SOk.len {s : Str} {u : List UInt8} (q : SOk s u) : u.length ≤ 15 := by
  obtain ⟨b, hb, r, hr, rfl, rfl⟩ := q
  have h4 : r = 0 ∨ r = 1 ∨ r = 2 ∨ r = 3 := by omega
  simp only [texts, List.mem_cons, List.not_mem_nil, or_false] at hb
  rcases hb with rfl | rfl | rfl | rfl | rfl <;> rcases h4 with rfl | rfl | rfl | rfl <;> decide

theorem leI_succ (k n : Nat) : leI (k + 1) n = leI k n ++ [((n / 2 ^ (8 * k) % 256 : Nat) : Int)] := by simp [leI, List.range_succ]
theorem leI_in (k n : Nat) : ∀ i ∈ leI k n, 0 ≤ i ∧ i < 256 := by
  intro i hi
  obtain ⟨j, _, rfl⟩ := List.mem_map.mp hi
  omega
theorem leI_len (k n : Nat) : (leI k n).length = k := by simp [leI]
theorem le_elt (i : Nat) (n : Int) (b : Nat) (hb : (1 * 2 ^ ((b : Int)).toNat : Int) = 2 ^ b) : Builtin.bitAnd (n % (1 * 2 ^ ((b : Int)).toNat) / 2 ^ (8 * (0 + (i : Int) * 1)).toNat) 255 = (((n % 2 ^ b).toNat / 2 ^ (8 * i) % 256 : Nat) : Int) := by
  rw [hb, bitAnd_m8]
  have e : (8 * (0 + (i : Int) * 1)).toNat = 8 * i := by omega
  rw [e]
  have h0 : 0 ≤ n % 2 ^ b := Int.emod_nonneg _ (by have : (0 : Int) < 2 ^ b := Int.pow_pos (by decide); omega)
  obtain ⟨m, hm⟩ := Int.eq_ofNat_of_zero_le h0
  rw [hm]
  push_cast
  rfl
theorem VOk.int {k b : Int} {v : Value} (h : VOk k b v) (h8 : k ≠ 8) (h9 : k ≠ 9) (h12 : k ≠ 12) : ∃ n t, v = .int n t := by
  cases h with
  | bool => exact absurd rfl h8
  | str => exact absurd rfl h9
  | byt => exact absurd rfl h12
  | uns => exact ⟨_, _, rfl⟩
  | sig => exact ⟨_, _, rfl⟩
theorem St.second {h₀ h : Heap} {L : Addr} {ns : List Str} {vs : List (Option Value)} {a : List (Addr × Obj)} {p q : Addr × Obj} (S : St h₀ L h ns vs (p :: q :: a)) : St h₀ L h ns vs (p :: a) := (S.re (.swap q p a)).drop
theorem St.none {h₀ h : Heap} {L : Addr} {ns : List Str} {vs : List (Option Value)} {a : List (Addr × Obj)} (S : St h₀ L h ns vs a) : St h₀ L h ns vs [] := S.perm (fun _ h => nomatch h) List.nodup_nil

section
variable {prog : Program} {w : World} {loose : List Str} {mean : ExcName → Option Value} {mg mb : Str → Option Value} {A A₀ : Around} {env cenv : Env} {outer : List Env} {base h₀ h : Heap} {L : Addr} {lv : Nat} {ns gl : List Str} {vs vs' : List (Option Value)} {news nw foot rest dl : List (Addr × Obj)} {x y : Str} {v u : Value} {p p' p2 p3 : Pos}
variable {gs : Array GenState} {dr : Drawn} {tk : Nat} {os : OsState} {Q E : Value → Shared → Prop} {e e1 e2 i o : Expr} {pos : Pos} {d l : Addr} {many : Int}

/-- o.encode("utf-8") of one of the texts -/
theorem Ev.encode {s : Str} {u : List UInt8} {kd : Nat} (q : SOk s u) (qo : Ev prog w A cenv h o (.str s 0))
    (he : starEach [(.Constant (.str (Str.ofString "utf-8")) kd p3 : Expr)] cenv = [(false, eval (.Constant (.str (Str.ofString "utf-8")) kd p3) cenv)] := by rfl)
    (hc : eval (.Call (.Attribute o "encode" p) [.Constant (.str (Str.ofString "utf-8")) kd p3] [] p') cenv = (do
        let ov ← eval o cenv
        standAt p.atName
        let __x ← holding [ov] (getMethod ov "encode" (do return (← importBound o cenv).getD true))
        match __x with
          | (f, first) => callWith p' f first (backTo p' (starEach [.Constant (.str (Str.ofString "utf-8")) kd p3] cenv)) []) := by rfl) :
    Ev prog w A cenv h (.Call (.Attribute o "encode" p) [.Constant (.str (Str.ofString "utf-8")) kd p3] [] p') (.bytes u.toArray 0) := fun h1 s1 gs dr tk os Q E k => .mk (by
  (with_reducible refine MethodCall_ (qo.use h1 s1 gs dr tk os _ _ fun v' h2 tk' e1 s2 => ?_).out hc)
  obtain ⟨t, rfl⟩ := nt_str e1
  refine GM.of (.str s t) (typeIs_str _ _ _) F.slot_str_encode F.type_str_encode GM.noRef ?_
  refine callWith_of (P := fun _ => True) (by rw [he]; rfl) (fun h _ => ⟨_, .inr (.inl rfl), Looks.of_pure rfl⟩) ?_
  rw [he]
  refine evalArgs_plain (spliced_cons (Constant_str (k := kd) (pos := p3) (spliced_nil ⟨trivial, ?_⟩)))
  refine call_gives F.slot_str_encode (typeIs_str _ _ _) F.entry_str_encode (F.args_str_encode_2 _ _) (.of_eq (m := .bytes u.toArray) (enc_tree q)) ⟨?_, ?_⟩
  · rw [sizeLine_eq, List.size_toArray]; have := q.len; omega
  · exact k _ _ _ rfl s2)

/-- _law_bare -/
theorem bare_ok {kind bits : Int} {vv : Value} {u : Tok} (C : Cx w loose mean mg mb A env outer A₀ base h₀ L (lv + 2)) (S : St h₀ L h ns vs rest) (hv : VOk kind bits vv)
    (k : ∀ bs t h' tk', BOk kind vv bs → St h₀ L h' ns vs rest → Q (.bytes bs.toArray t) ⟨h', gs, dr, tk', os⟩) : WP prog w A (PySem.call (.ref 369) [.int kind u, vv]) Q E ⟨h, gs, dr, tk, os⟩ := by
  refine call_g (cl := []) (foot := []) (rest := rest) (args := ⟨[.int kind u, vv], []⟩) (binds := [(Str.ofString "kind", .int kind u), (Str.ofString "value", vv)]) (Rel := fun v nw => ∃ bs t, v = .bytes bs.toArray t ∧ BOk kind vv bs ∧ nw = []) (ns' := [Str.ofString "kind", Str.ofString "octets"]) (gl' := [Str.ofString "_law_varint", Str.ofString "len", Str.ofString "bytes", Str.ofString "range"]) C S (K_get C S (by k_is)) rfl (K_code C S (by k_is)) (BindsTo.of_eq rfl)
    (fnEnv_ofG rfl (by decide +kernel) (by decide +kernel) (by decide +kernel) (by decide +kernel)) (vs2 := fun _ => [some (.int kind 0), none]) (nw2 := fun L' => [(L' + 1, cellO (some (vv)))] ++ ([])) (fun L' => (.loc .hd (.cel (by kernel_rfl) (by kernel_rfl) .hd .nil))) ?_ ?_
  · intro g L' h₁ tk₁ env' A' he hA C' N' S0 kp Q' E' ret
    have ce : CE env' (Str.ofString "value") (L' + 1) := ⟨.inl (by rw [he]; kernel_rfl), by rw [he]; kernel_rfl, by decide +kernel, by decide +kernel⟩
    clear hA kp
    refine x_if (Ts.eq (Ev.loc N' S0 .hd) Ev.int) (fun hc h2 tk2 s2 => ?_) fun hc h2 tk2 s2 => ?_
    · have S2 := S0.grow s2
      have hk9 : kind = 9 := by simpa using hc
      subst hk9
      obtain ⟨s, us, t, rfl, hs⟩ : ∃ s us t, vv = .str s t ∧ SOk s us := by
        cases hv with
        | str q => exact ⟨_, _, _, rfl, q⟩
        | uns q => rcases q with e | e | e | e <;> cases e
        | sig q => rcases q with e | e | e | e | e | e <;> cases e
      have hl := hs.len
      refine x_assign N' S2 (Ev.encode hs (Ev.cell N'.kind ce S2 (.head _) rfl)) (.tl .hd) fun h3 tk3 S3 => ?_
      refine x_retW (w_bin (w_varint (n := us.length) C' N'.gl (.head _) S3 (Ev.cast (Ev.lenB (Ev.bi N' C' S3 (by k_is) (.tail _ (.head _)) PyProof.Rows.Boot.«len» (by decide) rfl) (Ev.loc N' S3 (.tl .hd)) (by rw [List.size_toArray]; omega)) (by rw [List.size_toArray])) (Nat.lt_of_le_of_lt hl (by decide)) fun t4 h4 tk4 S4 =>
        Ev.use' (Ev.loc N' S4 (.tl .hd)) fun v5 h5 tk5 n5 s5 => ?_))
      obtain ⟨t5, rfl⟩ := nt_bytes n5
      have hv := vEnc_len 10 us.length (Nat.lt_of_le_of_lt hl (by decide))
      refine .mk (KBy.add_bytes (by rw [byteArr_size, List.size_toArray]; omega) fun t6 k6 => ?_)
      refine ret _ _ _ _ _ _ (S4.grow s5).none ⟨vB us.length ++ us, t6, ?_, .str hs, rfl⟩
      rw [vB_arr]; simp
    refine x_nil ?_
    have S2 := S0.grow s2
    have hk9 : kind ≠ 9 := by simpa using hc
    clear s2 S0 hc
    refine (x_if (Ts.eq (Ev.loc N' S2 .hd) Ev.int) (fun hc h3 tk3 s3 => ?_) fun hc h3 tk3 s3 => ?_).out
    · have S3 := S2.grow s3
      have hk12 : kind = 12 := by simpa using hc
      subst hk12
      obtain ⟨b, t, rfl, hb⟩ : ∃ b t, vv = .bytes b t ∧ b.size ≤ 4 := by
        cases hv with
        | byt q => exact ⟨_, _, rfl, q⟩
        | uns q => rcases q with e | e | e | e <;> cases e
        | sig q => rcases q with e | e | e | e | e | e <;> cases e
      refine x_retW (w_bin (w_varint (n := b.size) C' N'.gl (.head _) S3 (Ev.lenB (Ev.bi N' C' S3 (by k_is) (.tail _ (.head _)) PyProof.Rows.Boot.«len» (by decide) rfl) (Ev.cell N'.kind ce S3 (.head _) rfl) (by omega)) (Nat.lt_of_le_of_lt hb (by decide)) fun t4 h4 tk4 S4 =>
        Ev.use' (Ev.cell N'.kind ce S4 (.head _) rfl) fun v5 h5 tk5 n5 s5 => ?_))
      obtain ⟨t5, rfl⟩ := nt_bytes n5
      have hv := vEnc_len 10 b.size (Nat.lt_of_le_of_lt hb (by decide))
      refine .mk (KBy.add_bytes (by rw [byteArr_size]; omega) fun t6 k6 => ?_)
      refine ret _ _ _ _ _ _ (S4.grow s5).none ⟨vB b.size ++ b.toList, t6, ?_, .byt hb, rfl⟩
      rw [vB_arr, ← List.append_toArray, Array.toArray_toList]
    refine x_nil ?_
    have S3 := S2.grow s3
    have hk12 : kind ≠ 12 := by simpa using hc
    clear s3 S2 hc
    refine (x_if (Ts.inTup (is := [17, 18]) (Ev.loc N' S3 .hd) (.cons Ev.int (.cons Ev.int .nil)) (by decide)) (fun hc h4 tk4 s4 => ?_) fun hc h4 tk4 s4 => ?_).out
    · have S4 := S3.grow s4
      have hz : kind = 17 ∨ kind = 18 := by
        simp only [List.any_cons, List.any_nil, Bool.or_false, Bool.or_eq_true, beq_iff_eq] at hc
        omega
      obtain ⟨n, t, rfl⟩ := hv.int (by omega) hk9 hk12
      have hr : -9223372036854775808 ≤ n ∧ n < 9223372036854775808 := by
        cases hv with
        | uns q => unfold isU at q; omega
        | @sig _ _ _ b q hb h0 h1 => rcases hb with rfl | rfl <;> omega
      refine x_retW (w_varint (n := (if 0 ≤ n then 2 * n else -2 * n - 1).toNat) C' N'.gl (.head _) S4 ?_ (by split <;> omega) fun t5 h5 tk5 S5 => ?_)
      · by_cases h0 : 0 ≤ n
        · refine Ev.ite (c := decide (0 ≤ n)) (Ts.ge (Ev.cell N'.kind ce S4 (.head _) rfl) Ev.int) (fun _ => Ev.cast (Ev.mul Ev.int (Ev.cell N'.kind ce S4 (.head _) rfl) (mulOkL (by decide))) (by rw [if_pos h0]; congr 1; omega)) (fun hf => absurd h0 (by simpa using hf))
        · refine Ev.ite (c := decide (0 ≤ n)) (Ts.ge (Ev.cell N'.kind ce S4 (.head _) rfl) Ev.int) (fun hf => absurd (by simpa using hf) h0) (fun _ => Ev.cast (Ev.sub (Ev.mul (Ev.neg Ev.int) (Ev.cell N'.kind ce S4 (.head _) rfl) (mulOkL (by decide))) Ev.int) (by rw [if_neg h0]; congr 1; omega))
      · exact ret _ _ _ _ _ _ S5.none ⟨_, _, rfl, .zz hz, rfl⟩
    refine x_nil ?_
    have S9 := S3.grow s4
    have h17 := hc
    clear s4 S3 hc
    have S3 := S9
    refine (x_if (Ts.inTup (is := [7, 15]) (Ev.loc N' S3 .hd) (.cons Ev.int (.cons Ev.int .nil)) (by decide)) (fun hc h4 tk4 s4 => ?_) fun hc h4 tk4 s4 => ?_).out
    · have S4 := S3.grow s4
      have hk8 : kind ≠ 8 := by
        simp only [List.any_cons, List.any_nil, Bool.or_false, Bool.or_eq_true, beq_iff_eq] at hc
        omega
      obtain ⟨n, t, rfl⟩ := hv.int hk8 hk9 hk12
      refine x_retW (c_ty (Ev.bi N' C' S4 (by k_is) (.tail _ (.tail _ (.head _))) PyProof.Rows.Boot.«bytes» (by decide) rfl) fun h5 tk5 s5 => ?_)
      have S5 := S4.grow s5
      refine sp_i (c_comp (h₀ := g) (L := L') (ns := [Str.ofString "kind", Str.ofString "octets"]) (vs := [some (.int kind 0), none]) (gs := gs) (dr := dr) (os := os) (cl := [(Str.ofString "value", L' + 1)]) (closure_of (by rw [he]; kernel_rfl)) (by decide +kernel) rfl (by decide +kernel) ?_)
      refine c_ty (Ev.bi N' C' S5 (by k_is) (.tail _ (.tail _ (.tail _ (.head _)))) PyProof.Rows.Boot.«range» (by decide) rfl) fun h6 tk6 s6 => ?_
      have S6 := S5.grow s6
      refine sp_p Ev.int fun v7 h7 tk7 n7 s7 => ?_
      obtain ⟨t7, rfl⟩ := nt_int n7
      have S7 := S6.grow s7
      refine sp_n ?_
      refine call_range_1 ?_
      have S8 := S7.push { cls := .type "range", data := .fields #[.int 0 tk7, .int 4 t7, .int 1 (tk7 + 1)] }
      refine it_range C'.hand S8 (IsRange.new ..) (by decide) (by decide) fun I oI h9 S9 st9 W sx => ?_
      have S10 : St g L' h9 _ _ ((I, oI) :: [(L' + 1, cellO (some (.int n t)))]) := S9.second
      refine ⟨I, oI, _, _, _, _, _, (fun i ys nw => nw = [(L' + 1, cellO (some (.int n t)))] ∧ IntsAre ys (leI i (n % 2 ^ 32).toNat)), h9, _, _, rfl, rfl, W, by decide, S10, sx, ⟨rfl, .nil⟩, fun _ _ _ _ _ _ _ => trivial, CBind.name rfl (by decide +kernel), CTurn.plain ?_, ?_⟩
      · rintro i ys nw tail h tk C oC m v E' hi ⟨t, rfl⟩ ⟨rfl, hI⟩ SS hC hm hB
        have hm' : m (Str.ofString "k") = some (.int (0 + (i : Int) * 1) t) := hB
        refine Ev.use' (Ev.and (Ev.shr (Ev.mod (Ev.cell rfl (CE.comp (c := L' + 1) (by decide +kernel) rfl (by decide +kernel) (by decide +kernel)) SS (.head _) rfl) (Ev.shl Ev.int Ev.int (by decide) (by decide) (by decide)) (by decide))
          (Ev.mul (y := 0 + (i : Int) * 1) Ev.int (Ev.cn SS (.tail _ hC) hm hm' rfl (by decide +kernel) (by decide +kernel) rfl) (mulOkL (by decide))) (by omega)) Ev.int) fun v8 h8 tk8 n8 s8 => ?_
        obtain ⟨t8, rfl⟩ := nt_int n8
        refine ⟨_, _, [(L' + 1, cellO (some (.int n _)))], rfl, SS.grow s8, rfl, ?_⟩
        rw [leI_succ]
        have e1 : Builtin.bitAnd (n % (1 * 2 ^ ((32 : Int)).toNat) / 2 ^ (8 * (0 + (i : Int) * 1)).toNat) 255 = (((n % 2 ^ 32).toNat / 2 ^ (8 * i) % 256 : Nat) : Int) := le_elt i n 32 (by decide)
        exact e1 ▸ ints_snoc hI
      · rintro D h tk nw' ys yn ⟨rfl, hI⟩ SS
        refine (sp_n ?_).out
        have hL := PySem.IsL.isList (n := yn) (SS.get (.head _))
        refine call_bytes_ints hL hI (leI_in _ _) (by rw [sizeLine_eq]; have e := hI.length; rw [leI_len] at e; rw [e]; decide) C'.hand fun h' t k st => ?_
        refine ret _ _ _ _ _ _ ((SS.grow st).none) ⟨_, _, rfl, .f4 ?_, rfl⟩
        simp only [List.any_cons, List.any_nil, Bool.or_false, Bool.or_eq_true, beq_iff_eq] at hc
        omega
    refine x_nil ?_
    have S9 := S3.grow s4
    have h7 := hc
    clear s4 S3 hc
    have S3 := S9
    refine (x_if (Ts.inTup (is := [6, 16]) (Ev.loc N' S3 .hd) (.cons Ev.int (.cons Ev.int .nil)) (by decide)) (fun hc h4 tk4 s4 => ?_) fun hc h4 tk4 s4 => ?_).out
    · have S4 := S3.grow s4
      have hk8 : kind ≠ 8 := by
        simp only [List.any_cons, List.any_nil, Bool.or_false, Bool.or_eq_true, beq_iff_eq] at hc
        omega
      obtain ⟨n, t, rfl⟩ := hv.int hk8 hk9 hk12
      refine x_retW (c_ty (Ev.bi N' C' S4 (by k_is) (.tail _ (.tail _ (.head _))) PyProof.Rows.Boot.«bytes» (by decide) rfl) fun h5 tk5 s5 => ?_)
      have S5 := S4.grow s5
      refine sp_i (c_comp (h₀ := g) (L := L') (ns := [Str.ofString "kind", Str.ofString "octets"]) (vs := [some (.int kind 0), none]) (gs := gs) (dr := dr) (os := os) (cl := [(Str.ofString "value", L' + 1)]) (closure_of (by rw [he]; kernel_rfl)) (by decide +kernel) rfl (by decide +kernel) ?_)
      refine c_ty (Ev.bi N' C' S5 (by k_is) (.tail _ (.tail _ (.tail _ (.head _)))) PyProof.Rows.Boot.«range» (by decide) rfl) fun h6 tk6 s6 => ?_
      have S6 := S5.grow s6
      refine sp_p Ev.int fun v7 h7 tk7 n7 s7 => ?_
      obtain ⟨t7, rfl⟩ := nt_int n7
      have S7 := S6.grow s7
      refine sp_n ?_
      refine call_range_1 ?_
      have S8 := S7.push { cls := .type "range", data := .fields #[.int 0 tk7, .int 8 t7, .int 1 (tk7 + 1)] }
      refine it_range C'.hand S8 (IsRange.new ..) (by decide) (by decide) fun I oI h9 S9 st9 W sx => ?_
      have S10 : St g L' h9 _ _ ((I, oI) :: [(L' + 1, cellO (some (.int n t)))]) := S9.second
      refine ⟨I, oI, _, _, _, _, _, (fun i ys nw => nw = [(L' + 1, cellO (some (.int n t)))] ∧ IntsAre ys (leI i (n % 2 ^ 64).toNat)), h9, _, _, rfl, rfl, W, by decide, S10, sx, ⟨rfl, .nil⟩, fun _ _ _ _ _ _ _ => trivial, CBind.name rfl (by decide +kernel), CTurn.plain ?_, ?_⟩
      · rintro i ys nw tail h tk C oC m v E' hi ⟨t, rfl⟩ ⟨rfl, hI⟩ SS hC hm hB
        have hm' : m (Str.ofString "k") = some (.int (0 + (i : Int) * 1) t) := hB
        refine Ev.use' (Ev.and (Ev.shr (Ev.mod (Ev.cell rfl (CE.comp (c := L' + 1) (by decide +kernel) rfl (by decide +kernel) (by decide +kernel)) SS (.head _) rfl) (Ev.shl Ev.int Ev.int (by decide) (by decide) (by decide)) (by decide))
          (Ev.mul (y := 0 + (i : Int) * 1) Ev.int (Ev.cn SS (.tail _ hC) hm hm' rfl (by decide +kernel) (by decide +kernel) rfl) (mulOkL (by decide))) (by omega)) Ev.int) fun v8 h8 tk8 n8 s8 => ?_
        obtain ⟨t8, rfl⟩ := nt_int n8
        refine ⟨_, _, [(L' + 1, cellO (some (.int n _)))], rfl, SS.grow s8, rfl, ?_⟩
        rw [leI_succ]
        have e1 : Builtin.bitAnd (n % (1 * 2 ^ ((64 : Int)).toNat) / 2 ^ (8 * (0 + (i : Int) * 1)).toNat) 255 = (((n % 2 ^ 64).toNat / 2 ^ (8 * i) % 256 : Nat) : Int) := le_elt i n 64 (by decide)
        exact e1 ▸ ints_snoc hI
      · rintro D h tk nw' ys yn ⟨rfl, hI⟩ SS
        refine (sp_n ?_).out
        have hL := PySem.IsL.isList (n := yn) (SS.get (.head _))
        refine call_bytes_ints hL hI (leI_in _ _) (by rw [sizeLine_eq]; have e := hI.length; rw [leI_len] at e; rw [e]; decide) C'.hand fun h' t k st => ?_
        refine ret _ _ _ _ _ _ ((SS.grow st).none) ⟨_, _, rfl, .f8 ?_, rfl⟩
        simp only [List.any_cons, List.any_nil, Bool.or_false, Bool.or_eq_true, beq_iff_eq] at hc
        omega
    refine x_nil ?_
    have S9 := S3.grow s4
    have h6 := hc
    clear s4 S3 hc
    have S3 := S9
    refine (x_if (Ts.eq (Ev.loc N' S3 .hd) Ev.int) (fun hc h4 tk4 s4 => ?_) fun hc h4 tk4 s4 => ?_).out
    · have S4 := S3.grow s4
      have hk8 : kind = 8 := by simpa using hc
      subst hk8
      obtain ⟨b, rfl⟩ : ∃ b, vv = .bool b := by
        cases hv with
        | bool => exact ⟨_, rfl⟩
        | uns q => rcases q with e | e | e | e <;> cases e
        | sig q => rcases q with e | e | e | e | e | e <;> cases e
      cases b with
      | true =>
        refine x_ret (Ev.ite (c := true) (Ts.bool (Ev.cell N'.kind ce S4 (.head _) rfl)) (fun _ => Ev.cbytes) (fun e => nomatch e)) fun v5 h5 tk5 n5 s5 => ?_
        obtain ⟨t5, rfl⟩ := nt_bytes n5
        exact ret _ _ _ _ _ _ (S4.grow s5).none ⟨[1], _, rfl, .bool, rfl⟩
      | false =>
        refine x_ret (Ev.ite (c := false) (Ts.bool (Ev.cell N'.kind ce S4 (.head _) rfl)) (fun e => nomatch e) (fun _ => Ev.cbytes)) fun v5 h5 tk5 n5 s5 => ?_
        obtain ⟨t5, rfl⟩ := nt_bytes n5
        exact ret _ _ _ _ _ _ (S4.grow s5).none ⟨[0], _, rfl, .bool, rfl⟩
    refine x_nil ?_
    have S4 := S3.grow s4
    have hk8 : kind ≠ 8 := by simpa using hc
    obtain ⟨n, t, rfl⟩ := hv.int hk8 hk9 hk12
    have hm0 := Int.emod_nonneg n (b := 18446744073709551616) (by decide)
    have hm1 := Int.emod_lt_of_pos n (b := 18446744073709551616) (by decide)
    refine (x_retW (w_varint (n := (n % 2 ^ 64).toNat) C' N'.gl (.head _) S4 (Ev.cast (Ev.mod (Ev.cell N'.kind ce S4 (.head _) rfl) (Ev.shl Ev.int Ev.int (by decide) (by decide) (by decide)) (by decide)) ?_) ?_ fun t5 h5 tk5 S5 => ?_)).out
    · show Value.int (n % 18446744073709551616) 0 = Value.int ((n % 18446744073709551616).toNat) 0
      rw [Int.toNat_of_nonneg hm0]
    · have : (n % 2 ^ 64).toNat < 18446744073709551616 := by
        show (n % 18446744073709551616).toNat < _
        omega
      exact Nat.lt_trans this (by decide)
    · refine ret _ _ _ _ _ _ S5.none ⟨_, _, rfl, .var ?_, rfl⟩
      simp only [List.any_cons, List.any_nil, Bool.or_false, Bool.or_eq_false_iff, beq_eq_false_iff_ne] at h17 h7 h6
      cases hv with
      | uns q => unfold isU at q; omega
      | sig q => unfold isS at q; omega
  · rintro v h' tk' news' ⟨bs, t, rfl, hb, rfl⟩ S'
    exact k bs t h' tk' hb S'
end
end Mine
end
section
open PySem PySem.Spec PySem.Calls PySem.W PyProof.Rows
open LCg (NsObj ns_obj fr_but)
set_option maxRecDepth 100000
set_option maxHeartbeats 4000000
set_option linter.unusedVariables false
namespace Mine

/-- a varint's octets and what they count -/
inductive VOct : List UInt8 → Nat → Prop
  | last {b : UInt8} : b.toNat < 128 → VOct [b] b.toNat
  | more {b : UInt8} {bs r} : 128 ≤ b.toNat → VOct bs r → VOct (b :: bs) (b.toNat % 128 + 128 * r)
theorem u8 {n : Nat} (h : n < 256) : (n.toUInt8).toNat = n := by simp [Nat.toUInt8, UInt8.toNat_ofNat', Nat.mod_eq_of_lt h]
theorem vB_small {n : Nat} (h : n < 128) : vB n = [n.toUInt8] := by rw [vB, vEnc_small h]; rfl
theorem vB_big {n : Nat} (h : ¬ n < 128) : vB n = (n % 128 + 128).toUInt8 :: vB (n / 128) := by rw [vB, vEnc_big h]; rfl
theorem vB_ok (n : Nat) : VOct (vB n) n := by
  induction n using Nat.strongRecOn with
  | ind n ih =>
    by_cases h : n < 128
    · rw [vB_small h]
      have e := u8 (n := n) (by omega)
      have := VOct.last (b := n.toUInt8) (by omega)
      rwa [e] at this
    · rw [vB_big h]
      have e := u8 (n := n % 128 + 128) (by omega)
      have := VOct.more (b := (n % 128 + 128).toUInt8) (by omega) (ih (n / 128) (by omega))
      rw [e] at this
      have e2 : (n % 128 + 128) % 128 + 128 * (n / 128) = n := by omega
      rwa [e2] at this
theorem vB_len (k n : Nat) (h : n < 128 ^ (k + 1)) : (vB n).length ≤ k + 1 := by rw [vB, List.length_map]; exact vEnc_len k n h
theorem vB_pos (n : Nat) : 0 < (vB n).length := by
  by_cases h : n < 128
  · rw [vB_small h]; simp
  · rw [vB_big h]; simp
theorem VOct.split {os : List UInt8} {r : Nat} (h : VOct os r) : ∃ init b, os = init ++ [b] ∧ b.toNat < 128 ∧ ∀ x ∈ init, 128 ≤ x.toNat := by
  induction h with
  | last h => exact ⟨[], _, rfl, h, by simp⟩
  | more h _ ih =>
    obtain ⟨init, b, rfl, hb, hi⟩ := ih
    exact ⟨_ :: init, b, rfl, hb, fun x hx => by rcases List.mem_cons.mp hx with rfl | hx; exact h; exact hi x hx⟩
theorem VOct.zeros (j : Nat) : VOct (List.replicate j 128 ++ [0]) 0 := by
  induction j with
  | zero => exact .last (b := 0) (by decide)
  | succ j ih => exact .more (b := 128) (by decide) ih
theorem VOct.ext {init : List UInt8} {b : UInt8} {r : Nat} (h : VOct (init ++ [b]) r) (hb : b.toNat < 128) (j : Nat) : VOct (init ++ [(b.toNat + 128).toUInt8] ++ List.replicate j 128 ++ [0]) r := by
  induction init generalizing r with
  | nil =>
    have e := u8 (n := b.toNat + 128) (by omega)
    cases h with
    | last h1 =>
      have := VOct.more (b := (b.toNat + 128).toUInt8) (by omega) (VOct.zeros j)
      rw [e] at this
      have e2 : (b.toNat + 128) % 128 + 128 * 0 = b.toNat := by omega
      rw [e2] at this
      simpa using this
    | more h1 h2 => omega
  | cons a init ih =>
    rw [List.cons_append] at h
    generalize hq : init ++ [b] = q at h
    cases h with
    | last h1 => simp at hq
    | more h1 h2 => subst hq; exact .more h1 (ih h2)

/-- what a raw number stands for -/
def sgn (b raw : Nat) : Int := if 2 ^ (b - 1) ≤ raw % 2 ^ b then (raw % 2 ^ b : Nat) - 2 ^ b else ((raw % 2 ^ b : Nat) : Int)
def zz (m : Nat) : Int := if m % 2 = 0 then ((m / 2 : Nat) : Int) else -((m / 2 : Nat) : Int) - 1
inductive CV : Int → Value → Nat → Prop
  | k3 {raw t} : CV 3 (.int (sgn 64 raw) t) raw
  | k4 {raw t} : CV 4 (.int (raw % 2 ^ 64 : Nat) t) raw
  | k5 {raw t} : CV 5 (.int (sgn 32 raw) t) raw
  | k13 {raw t} : CV 13 (.int (raw % 2 ^ 32 : Nat) t) raw
  | k17 {raw t} : CV 17 (.int (zz (raw % 2 ^ 32)) t) raw
  | k18 {raw t} : CV 18 (.int (zz (raw % 2 ^ 64)) t) raw
  | k8 {raw} : CV 8 (.bool (raw % 2 ^ 64 != 0)) raw
def isV (k : Int) : Prop := k = 3 ∨ k = 4 ∨ k = 5 ∨ k = 8 ∨ k = 13 ∨ k = 17 ∨ k = 18
theorem CV.isV {k : Int} {v : Value} {raw : Nat} (h : CV k v raw) : isV k := by cases h <;> simp [Mine.isV]
/-- a piece -/
def Good (k b : Int) (v : Value) (os : List UInt8) : Prop := (∃ raw, VOct os raw ∧ os.length ≤ 10 ∧ CV k v raw) ∨ (¬ isV k ∧ VOk k b v ∧ BOk k v os)

theorem sgn_back {b : Nat} {n : Int} {raw : Nat} (hb : 0 < b) (h0 : -2 ^ (b - 1) ≤ n) (h1 : n < 2 ^ (b - 1)) (hr : ((raw % 2 ^ b : Nat) : Int) = n % 2 ^ b) : sgn b raw = n := by
  obtain ⟨c, rfl⟩ : ∃ c, b = c + 1 := ⟨b - 1, by omega⟩
  rw [Nat.add_sub_cancel] at h0 h1
  unfold sgn
  rw [Nat.add_sub_cancel]
  have hp : (0 : Int) < 2 ^ c := Int.pow_pos (by decide)
  have e : (2 : Int) ^ (c + 1) = 2 * 2 ^ c := by rw [Int.pow_succ, Int.mul_comm]
  have eN : ((2 ^ c : Nat) : Int) = (2 : Int) ^ c := by push_cast; rfl
  rw [e] at hr ⊢
  generalize (2 : Int) ^ c = H at *
  by_cases hn : 0 ≤ n
  · rw [Int.emod_eq_of_lt hn (by omega)] at hr
    rw [if_neg (by omega)]
    omega
  · have e3 : n % (2 * H) = n + 2 * H := by
      rw [← Int.add_emod_right, Int.emod_eq_of_lt (by omega) (by omega)]
    rw [e3] at hr
    rw [if_pos (by omega)]
    omega
theorem zz_back {n : Int} : zz (if 0 ≤ n then 2 * n else -2 * n - 1).toNat = n := by
  unfold zz
  split
  · split <;> omega
  · split <;> omega

theorem good_of {k b : Int} {v : Value} {os : List UInt8} (h : VOk k b v) (hb : BOk k v os) (hk : KB k b) (hz : ∀ {n t}, v = .int n t → (k = 3 ∨ k = 4 ∨ k = 18) → b = 64) (hz2 : ∀ {n t}, v = .int n t → (k = 5 ∨ k = 13 ∨ k = 17) → b = 32) : Good k b v os := by
  cases hb with
  | str q => exact .inr ⟨by simp [isV], h, .str q⟩
  | byt q => exact .inr ⟨by simp [isV], h, .byt q⟩
  | f4 q => exact .inr ⟨by rcases q with rfl | rfl <;> simp [isV], h, .f4 q⟩
  | f8 q => exact .inr ⟨by rcases q with rfl | rfl <;> simp [isV], h, .f8 q⟩
  | @bool c => 
    refine .inl ⟨if c then 1 else 0, ?_, by simp, ?_⟩
    · cases c
      · exact .last (b := 0) (by decide)
      · exact .last (b := 1) (by decide)
    · cases c
      · exact CV.k8 (raw := 0)
      · exact CV.k8 (raw := 1)
  | @zz _ n t q =>
    cases h with
    | uns q2 => unfold isU at q2; omega
    | @sig _ _ _ b q2 hb h0 h1 =>
      have hr : (-9223372036854775808 ≤ n ∧ n < 9223372036854775808) ∧ (k = 17 → -2147483648 ≤ n ∧ n < 2147483648) := by
        refine ⟨by rcases hb with rfl | rfl <;> omega, fun e => ?_⟩
        have : (b : Int) = 32 := hz2 rfl (by omega)
        obtain rfl : b = 32 := by omega
        omega
      refine .inl ⟨_, vB_ok _, vB_len 9 _ ?_, ?_⟩
      · have : (if 0 ≤ n then 2 * n else -2 * n - 1).toNat < 18446744073709551616 := by split <;> omega
        exact Nat.lt_trans this (by decide)
      · rcases q with rfl | rfl
        · have e : (if 0 ≤ n then 2 * n else -2 * n - 1).toNat % 2 ^ 32 = (if 0 ≤ n then 2 * n else -2 * n - 1).toNat := Nat.mod_eq_of_lt (by split <;> omega)
          have := CV.k17 (raw := (if 0 ≤ n then 2 * n else -2 * n - 1).toNat) (t := t)
          rwa [e, zz_back] at this
        · have e : (if 0 ≤ n then 2 * n else -2 * n - 1).toNat % 2 ^ 64 = (if 0 ≤ n then 2 * n else -2 * n - 1).toNat := Nat.mod_eq_of_lt (by split <;> omega)
          have := CV.k18 (raw := (if 0 ≤ n then 2 * n else -2 * n - 1).toNat) (t := t)
          rwa [e, zz_back] at this
  | @var _ n t q =>
    have hm0 := Int.emod_nonneg n (b := 18446744073709551616) (by decide)
    have hm1 := Int.emod_lt_of_pos n (b := 18446744073709551616) (by decide)
    have hlt : (n % 2 ^ 64).toNat < 18446744073709551616 := by
      show (n % 18446744073709551616).toNat < _
      omega
    have hc : (((n % 2 ^ 64).toNat : Nat) : Int) = n % 18446744073709551616 := by
      show (((n % 18446744073709551616).toNat : Nat) : Int) = _
      omega
    refine .inl ⟨_, vB_ok _, vB_len 9 _ (Nat.lt_trans hlt (by decide)), ?_⟩
    rcases q with rfl | rfl | rfl | rfl
    · obtain ⟨h0, h1⟩ : -2 ^ 63 ≤ n ∧ n < 2 ^ 63 := by
        cases h with
        | uns q2 => unfold isU at q2; omega
        | @sig _ _ _ b q2 hb h0 h1 =>
          have : (b : Int) = 64 := hz rfl (by omega)
          obtain rfl : b = 64 := by omega
          exact ⟨h0, h1⟩
      have := CV.k3 (raw := (n % 2 ^ 64).toNat) (t := t)
      rwa [sgn_back (n := n) (by decide) h0 h1 (by rw [Nat.mod_eq_of_lt hlt, hc]; rfl)] at this
    · obtain ⟨h0, h1⟩ : 0 ≤ n ∧ n < 2 ^ 64 := by
        cases h with
        | sig q2 => unfold isS at q2; omega
        | @uns _ _ _ b q2 hb h0 h1 =>
          have : (b : Int) = 64 := hz rfl (by omega)
          obtain rfl : b = 64 := by omega
          exact ⟨h0, h1⟩
      have := CV.k4 (raw := (n % 2 ^ 64).toNat) (t := t)
      have e : (((n % 2 ^ 64).toNat % 2 ^ 64 : Nat) : Int) = n := by
        rw [Nat.mod_eq_of_lt hlt, hc]; omega
      rwa [e] at this
    · obtain ⟨h0, h1⟩ : -2 ^ 31 ≤ n ∧ n < 2 ^ 31 := by
        cases h with
        | uns q2 => unfold isU at q2; omega
        | @sig _ _ _ b q2 hb h0 h1 =>
          have : (b : Int) = 32 := hz2 rfl (by omega)
          obtain rfl : b = 32 := by omega
          exact ⟨h0, h1⟩
      have := CV.k5 (raw := (n % 2 ^ 64).toNat) (t := t)
      rwa [sgn_back (n := n) (by decide) h0 h1 (by
        show (((n % 2 ^ 64).toNat % 4294967296 : Nat) : Int) = n % 4294967296
        omega)] at this
    · obtain ⟨h0, h1⟩ : 0 ≤ n ∧ n < 2 ^ 32 := by
        cases h with
        | sig q2 => unfold isS at q2; omega
        | @uns _ _ _ b q2 hb h0 h1 =>
          have : (b : Int) = 32 := hz2 rfl (by omega)
          obtain rfl : b = 32 := by omega
          exact ⟨h0, h1⟩
      have := CV.k13 (raw := (n % 2 ^ 64).toNat) (t := t)
      have e : (((n % 2 ^ 64).toNat % 2 ^ 32 : Nat) : Int) = n := by
        show (((n % 2 ^ 64).toNat % 4294967296 : Nat) : Int) = n
        omega
      rwa [e] at this
end Mine
end
section
open PySem PySem.Spec PySem.Calls PySem.W PyProof.Rows
open LCg (NsObj ns_obj fr_but)
set_option maxRecDepth 100000
set_option maxHeartbeats 4000000
set_option linter.unusedVariables false
namespace Mine

section
variable {prog : Program} {w : World} {A : Around} {env : Env} {h : Heap} {o i lo hi e : Expr} {p p' : Pos} {xs ys : List UInt8} {x : Int} {v : Value}
def EvO (prog : Program) (w : World) (A : Around) (env : Env) (h : Heap) (oe : Option Expr) (oi : Option Int) : Prop :=
  ∀ (h1 : Heap) (s : h.StaysIn h1) (gs : Array GenState) (dr : Drawn) (tk : Nat) (os : OsState) (Q E : Value → Shared → Prop), (∀ v h2 tk', IsPart v oi → h1.StaysIn h2 → Q v ⟨h2, gs, dr, tk', os⟩) → WP prog w A (valueOrNone (evalOpt oe env)) Q E ⟨h1, gs, dr, tk, os⟩
theorem EvO.none : EvO prog w A env h none none := fun h1 _ gs dr tk os Q E k => .mk (by
  show wpAny _ _ (pure Value.none) _ _ _
  exact wpAny_pure (k _ _ _ .none (stays_refl h1)))
theorem EvO.some (q : Ev prog w A env h e (.int x 0)) : EvO prog w A env h (some e) (some x) := fun h1 s1 gs dr tk os Q E k => .mk (by
  show wpAny _ _ (eval e env) _ _ _
  exact (q.use h1 s1 gs dr tk os _ _ fun v h2 tk2 n s2 => by obtain ⟨t, rfl⟩ := nt_int n; exact k _ _ _ (.int _ _) s2).out)
theorem letTemp (value : Expr) (b : Array UInt8) (t : Tok) (r : Value) : letTemporaryGo value (.bytes b t) r = pure () := by cases value <;> rfl

/-- o[lo:hi] of bytes -/
theorem Ev.sliceB {lower upper : Option Expr} {a b : Option Int} (qo : Ev prog w A env h o (.bytes xs.toArray 0)) (ql : EvO prog w A env h lower a) (qu : EvO prog w A env h upper b) (hz : xs.length ≤ 16777216) (e : (xs.drop (a.elim 0 (clipAt xs.length))).take (b.elim xs.length (clipAt xs.length) - a.elim 0 (clipAt xs.length)) = ys) :
    Ev prog w A env h (.Subscript o (.Slice lower upper none p) p') (.bytes ys.toArray 0) := fun h1 s1 gs dr tk os Q E k => .mk (by
  (with_reducible refine Subscript_ (qo.use h1 s1 gs dr tk os _ _ fun v' h2 tk2 n2 s2 => ?_).out)
  obtain ⟨t2, rfl⟩ := nt_bytes n2
  rw [arm_eval_Slice]
  refine wpAny_bind (ql h2 (stays_trans s1 s2) gs dr tk2 os _ _ fun l h3 tk3 pl s3 => ?_).out
  refine wpAny_bind (wpAny_holding (qu h3 (stays_trans s1 (stays_trans s2 s3)) gs dr tk3 os _ _ fun u h4 tk4 pu s4 => ?_).out)
  refine wpAny_bind (wpAny_holding (wpAny_pure ?_))
  refine wpAny_newObj_type ?_ (by size_fits)
  have hp : KBy.picked xs.toArray a b = ys.toArray := by
    rw [KBc.picked_eq, List.size_toArray]
    exact congrArg _ e
  have hy : ys.length ≤ xs.length := by rw [← e]; simp; omega
  exact tail_of_ItemOn ⟨"bytes", _, FB.slot_bytes_getitem.lookup, typeIs_bytes _ _ _, getItem_meets (typeIs_bytes _ _ _) (by decide) FB.slot_bytes_getitem FB.entry_bytes_getitem (FB.args_bytes_getitem_2 _ _) (KBc.meets_slice2 _ _ _ pl pu)
    ⟨Heap.IsSliceOf.new _ _ _ _, by rw [hp, sizeLine_eq, List.size_toArray]; omega, fun t' kk => by rw [hp]; exact k _ _ _ rfl (stays_trans s2 (stays_trans s3 (stays_trans s4 fun b o' e => Heap.get?_push_of_some _ e)))⟩⟩ (by with_unfolding_all rfl) (letTemp o _ _))
/-- o[i] of bytes, i from the left -/
theorem Ev.itemB {j : Nat} {b : UInt8} (qo : Ev prog w A env h o (.bytes xs.toArray 0)) (qi : Ev prog w A env h i (.int x 0)) (hj : x = j) (hb : xs[j]? = some b) (hz : xs.length ≤ 16777216)
    (hs : ∀ o v, subscripted i false o v = operate [o, v] (getItem o v)) : Ev prog w A env h (.Subscript o i p') (.int b.toNat 0) := fun h1 s1 gs dr tk os Q E k => .mk (by
  subst hj
  (with_reducible refine Subscript_ (qo.use h1 s1 gs dr tk os _ _ fun v' h2 tk2 n2 s2 => (qi.use h2 (stays_trans s1 s2) gs dr tk2 os _ _ fun v3 h3 tk3 n3 s3 => ?_).out).out)
  obtain ⟨t2, rfl⟩ := nt_bytes n2
  obtain ⟨t3, rfl⟩ := nt_int n3
  have hl : j < xs.length := (List.getElem?_eq_some_iff.mp hb).1
  refine KBw.item_K (ks := xs.map fun c => (c.toNat : Int)) rfl (by rw [List.length_map]; omega) (by omega) (by rw [List.length_map]; omega) (fun t' kk _ _ => ?_) (hs _ _) (letTemp o _ _)
  have e : (xs.map fun c => (c.toNat : Int)).getD ((j : Int)).toNat 0 = (b.toNat : Int) := by simp [List.getD, hb]
  rw [e]
  exact k _ _ _ rfl (stays_trans s2 s3))
/-- o[-1] of bytes -/
theorem Ev.lastB {init : List UInt8} {b : UInt8} (qo : Ev prog w A env h o (.bytes (init ++ [b]).toArray 0)) (qi : Ev prog w A env h i (.int (-1) 0)) (hz : init.length ≤ 16777215)
    (hs : ∀ o v, subscripted i false o v = operate [o, v] (getItem o v)) : Ev prog w A env h (.Subscript o i p') (.int b.toNat 0) := fun h1 s1 gs dr tk os Q E k => .mk (by
  (with_reducible refine Subscript_ (qo.use h1 s1 gs dr tk os _ _ fun v' h2 tk2 n2 s2 => (qi.use h2 (stays_trans s1 s2) gs dr tk2 os _ _ fun v3 h3 tk3 n3 s3 => ?_).out).out)
  obtain ⟨t2, rfl⟩ := nt_bytes n2
  obtain ⟨t3, rfl⟩ := nt_int n3
  refine KBc.itemR_K (ks := (init ++ [b]).map fun c => (c.toNat : Int)) rfl (by simp; omega) (by simp; omega) (by decide) (fun t' kk _ _ => ?_) (hs _ _) (letTemp o _ _)
  have e : ((init ++ [b]).map fun c => (c.toNat : Int)).getD (-1 + (((init ++ [b]).map fun c => (c.toNat : Int)).length : Int)).toNat 0 = (b.toNat : Int) := by
    have e2 : (-1 + (((init ++ [b]).map fun c => (c.toNat : Int)).length : Int)).toNat = init.length := by simp; omega
    rw [e2]
    simp [List.getD]
  rw [e]
  exact k _ _ _ rfl (stays_trans s2 s3))
end

theorem VOk.tok {k b : Int} {v v' : Value} (h : VOk k b v) (e : nt v' = nt v) : VOk k b v' := by
  cases h with
  | bool => obtain rfl := nt_bool e; exact .bool
  | str q => obtain ⟨t, rfl⟩ := nt_str e; exact .str q
  | byt q => obtain ⟨t, rfl⟩ := nt_bytes e; exact .byt q
  | uns a b c d => obtain ⟨t, rfl⟩ := nt_int e; exact .uns a b c d
  | sig a b c d => obtain ⟨t, rfl⟩ := nt_int e; exact .sig a b c d
theorem BOk.tok {k : Int} {v v' : Value} {os : List UInt8} (h : BOk k v os) (e : nt v' = nt v) : BOk k v' os := by
  cases h with
  | str q => obtain ⟨t, rfl⟩ := nt_str e; exact .str q
  | byt q => obtain ⟨t, rfl⟩ := nt_bytes e; exact .byt q
  | zz a => obtain ⟨t, rfl⟩ := nt_int e; exact .zz a
  | f4 a => obtain ⟨t, rfl⟩ := nt_int e; exact .f4 a
  | f8 a => obtain ⟨t, rfl⟩ := nt_int e; exact .f8 a
  | bool => obtain rfl := nt_bool e; exact .bool
  | var a => obtain ⟨t, rfl⟩ := nt_int e; exact .var a
theorem CV.tok {k : Int} {v v' : Value} {raw : Nat} (h : CV k v raw) (e : nt v' = nt v) : CV k v' raw := by
  cases h with
  | k3 => obtain ⟨t, rfl⟩ := nt_int e; exact .k3
  | k4 => obtain ⟨t, rfl⟩ := nt_int e; exact .k4
  | k5 => obtain ⟨t, rfl⟩ := nt_int e; exact .k5
  | k13 => obtain ⟨t, rfl⟩ := nt_int e; exact .k13
  | k17 => obtain ⟨t, rfl⟩ := nt_int e; exact .k17
  | k18 => obtain ⟨t, rfl⟩ := nt_int e; exact .k18
  | k8 => obtain rfl := nt_bool e; exact .k8
theorem Good.tok {k b : Int} {v v' : Value} {os : List UInt8} (h : Good k b v os) (e : nt v' = nt v) : Good k b v' os := by
  rcases h with ⟨r, h1, h2, h3⟩ | ⟨h1, h2, h3⟩
  · exact .inl ⟨r, h1, h2, h3.tok e⟩
  · exact .inr ⟨h1, h2.tok e, h3.tok e⟩

/-- the kinds that the law takes -/
def KW (k w b : Int) : Prop := (k, w, b) ∈ kindTab ∧ k ≠ 14
theorem KW.cases {P : Int → Int → Int → Prop} (h3 : P 3 0 64) (h4 : P 4 0 64) (h5 : P 5 0 32) (h6 : P 6 1 64) (h7 : P 7 5 32) (h8 : P 8 0 1) (h9 : P 9 2 0) (h12 : P 12 2 0) (h13 : P 13 0 32) (h15 : P 15 5 32) (h16 : P 16 1 64) (h17 : P 17 0 32) (h18 : P 18 0 64)
    {k w b : Int} (q : KW k w b) : P k w b := by
  obtain ⟨q, hne⟩ := q
  simp only [kindTab, List.mem_cons, Prod.mk.injEq, List.not_mem_nil, or_false] at q
  rcases q with ⟨rfl, rfl, rfl⟩ | ⟨rfl, rfl, rfl⟩ | ⟨rfl, rfl, rfl⟩ | ⟨rfl, rfl, rfl⟩ | ⟨rfl, rfl, rfl⟩ | ⟨rfl, rfl, rfl⟩ | ⟨rfl, rfl, rfl⟩ | ⟨rfl, rfl, rfl⟩ | ⟨rfl, rfl, rfl⟩ | ⟨rfl, rfl, rfl⟩ | ⟨rfl, rfl, rfl⟩ | ⟨rfl, rfl, rfl⟩ | ⟨rfl, rfl, rfl⟩ | ⟨rfl, rfl, rfl⟩ <;> first | assumption | exact absurd rfl hne
theorem KW.kb {k w b : Int} (q : KW k w b) : KB k b := by
  refine KW.cases (P := fun k w b => KB k b) ?_ ?_ ?_ ?_ ?_ ?_ ?_ ?_ ?_ ?_ ?_ ?_ ?_ q <;> simp [KB, isU, isS]
theorem KW.big {k w b : Int} (q : KW k w b) : (k = 3 ∨ k = 4 ∨ k = 18) → b = 64 := by
  refine KW.cases (P := fun k w b => (k = 3 ∨ k = 4 ∨ k = 18) → b = 64) ?_ ?_ ?_ ?_ ?_ ?_ ?_ ?_ ?_ ?_ ?_ ?_ ?_ q <;> decide
theorem KW.small {k w b : Int} (q : KW k w b) : (k = 5 ∨ k = 13 ∨ k = 17) → b = 32 := by
  refine KW.cases (P := fun k w b => (k = 5 ∨ k = 13 ∨ k = 17) → b = 32) ?_ ?_ ?_ ?_ ?_ ?_ ?_ ?_ ?_ ?_ ?_ ?_ ?_ q <;> decide
end Mine
end
section
open PySem PySem.Spec PySem.Calls PySem.W PyProof.Rows
open LCg (NsObj ns_obj fr_but)
set_option maxRecDepth 100000
set_option maxHeartbeats 4000000
set_option linter.unusedVariables false
namespace Mine

theorem Nx.go {prog : Program} {w : World} {A : Around} {rest : List Stmt} {env : Env} {Q : Flow → Shared → Prop} {E : Value → Shared → Prop} {s : Shared} (h : WP prog w A (execs rest env) Q E s) : Nx prog w A rest env Q E .next s := h.out
theorem isV_any {k : Int} : ([3, 4, 5, 8, 13, 17, 18].any (· == k)) = true ↔ isV k := by
  simp only [List.any_cons, List.any_nil, Bool.or_false, Bool.or_eq_true, beq_iff_eq, isV]
  omega

section
variable {prog : Program} {w : World} {loose : List Str} {mean : ExcName → Option Value} {mg mb : Str → Option Value} {A A₀ : Around} {env cenv : Env} {outer : List Env} {base h₀ h : Heap} {L : Addr} {lv : Nat} {ns gl : List Str} {vs vs' : List (Option Value)} {news nw foot rest dl : List (Addr × Obj)} {x y : Str} {v u : Value} {p p' p2 p3 : Pos}
variable {gs : Array GenState} {dr : Drawn} {tk : Nat} {os : OsState} {Q E : Value → Shared → Prop} {e e1 e2 i o : Expr} {pos : Pos} {d l : Addr} {many : Int}

theorem map_nt2' {ws : List Value} {a b : Value} (h : ws.map nt = [a, b]) : ∃ x y, ws = [x, y] ∧ nt x = a ∧ nt y = b := map_nt2 h

theorem Good.len {k b : Int} {v : Value} {os : List UInt8} (h : Good k b v os) : os.length ≤ 16 := by
  rcases h with ⟨r, h1, h2, h3⟩ | ⟨h1, h2, h3⟩
  · omega
  · cases h3 with
    | str q => rw [List.length_append, vB_small (by have := q.len; omega)]; have := q.len; simp; omega
    | byt q => rw [List.length_append, vB_small (by omega)]; simp; omega
    | f4 _ => simp [leB, leI]
    | f8 _ => simp [leB, leI]
    | bool => simp
    | zz a => exact absurd (by rcases a with rfl | rfl <;> simp [isV]) h1
    | var a => exact absurd (by rcases a with rfl | rfl | rfl | rfl <;> simp [isV]) h1

theorem w_addB {xs ys : List UInt8} {t t' : Tok} {s : Shared} (hz : xs.length + ys.length ≤ 16777216) (k : ∀ t' tk', Q (.bytes (xs ++ ys).toArray t') { s with toks := tk' }) : WP prog w A (binaryOp .Add (.bytes xs.toArray t) (.bytes ys.toArray t')) Q E s :=
  .mk (KBy.add_bytes (by rw [List.size_toArray, List.size_toArray]; exact hz) fun t' tk' => by
    rw [List.append_toArray]
    exact k t' tk')

/-- _law_odd -/
theorem odd_ok {kind wire bits : Int} {u u2 : Tok} (C : Cx w loose mean mg mb A env outer A₀ base h₀ L (lv + 3)) (S : St h₀ L h ns vs (dl ++ rest)) (D : Draw d l dl) (hkw : KW kind wire bits)
    (k : ∀ T bs t v h' tk' dl', Good kind bits v bs → bs.length ≤ 16 → Draw d l dl' → St h₀ L h' ns vs (((T, tupO [.bytes bs.toArray t, v]) :: dl') ++ rest) → Q (.ref T) ⟨h', gs, dr, tk', os⟩) : WP prog w A (PySem.call (.ref 390) [.ref d, .int kind u, .int bits u2]) Q E ⟨h, gs, dr, tk, os⟩ := by
  refine call_fn (foot := dl) (rest := rest) (args := ⟨[.ref d, .int kind u, .int bits u2], []⟩) (binds := [(Str.ofString "draw", .ref d), (Str.ofString "kind", .int kind u), (Str.ofString "bits", .int bits u2)]) (Rel := fun v nw => ∃ T bs t vv dl2, v = .ref T ∧ Good kind bits vv bs ∧ bs.length ≤ 16 ∧ Draw d l dl2 ∧ nw = (T, tupO [.bytes bs.toArray t, vv]) :: dl2) (ns' := [Str.ofString "draw", Str.ofString "kind", Str.ofString "bits", Str.ofString "value", Str.ofString "octets", Str.ofString "number", Str.ofString "low"]) (gl' := [Str.ofString "_law_take", Str.ofString "_law_value", Str.ofString "_law_bare", Str.ofString "len", Str.ofString "bytes", Str.ofString "_law_varint"]) (vs' := [some (.ref d), some (.int kind 0), some (.int bits 0), none, none, none, none]) C S (K_get C S (by k_is)) rfl (K_code C S (by k_is)) (BindsTo.of_eq rfl) (locs rfl) (by decide)
    (fnEnv_of rfl (by decide +kernel) (by decide +kernel) (by decide +kernel) (by decide +kernel)) (hvs_of (ps := [Str.ofString "draw", Str.ofString "kind", Str.ofString "bits"]) (args := [.ref d, .int kind u, .int bits u2]) (by decide +kernel) rfl [Str.ofString "value", Str.ofString "octets", Str.ofString "number", Str.ofString "low"]) ?_ ?_
  · intro g L' h₁ tk₁ env' A' he hA C' N' S' kp Q' E' ret
    clear he hA kp
    have C1 : Cx w loose mean mg mb A' env' (env :: outer) A base g L' (lv + 1) := C'.le (by omega)
    have fin : ∀ (QF : Flow → Shared → Prop) (bs : List UInt8) (vv : Value) (h : Heap) (tk : Nat) (dl : List (Addr × Obj)) (p1 p2 p3 p4 : Pos) (kk : Nat) (r : List Stmt), (∀ v s, Q' (.ret v) s → QF (.ret v) s) → Good kind bits vv bs → bs.length ≤ 16 → Draw d l dl →
        St g L' h [Str.ofString "draw", Str.ofString "kind", Str.ofString "bits", Str.ofString "value", Str.ofString "octets", Str.ofString "number", Str.ofString "low"] [some (.ref d), some (.int kind 0), some (.int bits 0), some (nt vv), some (.bytes bs.toArray 0), none, none] dl →
        WP prog w A' (execs (.Return (some (.Tuple [.Name (Str.ofString "octets") p1, .Name (Str.ofString "value") p2] kk p3)) p4 :: r) env') QF E' ⟨h, gs, dr, tk, os⟩ := by
      intro QF bs vv h tk dl p1 p2 p3 p4 kk r hq G hl D S
      refine x_retW (w_tuple S (.cons (Ev.loc N' S (.tl (.tl (.tl (.tl .hd))))) (.cons (Ev.loc N' S (.tl (.tl (.tl .hd)))) .nil)) (by simp) fun T ws h2 tk2 e S2 st => ?_)
      obtain ⟨x, y, rfl, hx, hy⟩ := map_nt2 e
      obtain ⟨t, rfl⟩ := nt_bytes hx
      exact hq _ _ (ret _ _ _ _ _ _ S2 ⟨T, bs, t, y, dl, rfl, G.tok hy, hl, D, rfl⟩)
    have fin2 : ∀ (QF : Flow → Shared → Prop) (n : Nat) (vv : Value) (lo : Option Value) (h : Heap) (tk : Nat) (dl : List (Addr × Obj)) (p1 p2 p3 p4 p5 p6 : Pos) (kk : Nat) (r : List Stmt), (∀ v s, Q' (.ret v) s → QF (.ret v) s) → n < 18446744073709551616 → CV kind vv n → Draw d l dl →
        St g L' h [Str.ofString "draw", Str.ofString "kind", Str.ofString "bits", Str.ofString "value", Str.ofString "octets", Str.ofString "number", Str.ofString "low"] [some (.ref d), some (.int kind 0), some (.int bits 0), some (nt vv), none, some (.int n 0), lo] dl →
        WP prog w A' (execs (.Return (some (.Tuple [.Call (.Name (Str.ofString "_law_varint") p1) [.Name (Str.ofString "number") p2] [] p3, .Name (Str.ofString "value") p4] kk p5)) p6 :: r) env') QF E' ⟨h, gs, dr, tk, os⟩ := by
      intro QF n vv lo h tk dl p1 p2 p3 p4 p5 p6 kk r hq hn hcv D S
      refine x_retW (.mk (Tuple_ (sp_i (w_varint C1 N'.gl (.tail _ (.tail _ (.tail _ (.tail _ (.tail _ (.head _)))))) S (Ev.loc N' S (.tl (.tl (.tl (.tl (.tl .hd)))))) (Nat.lt_trans hn (by decide)) fun t h2 tk2 S2 => ?_)).out))
      refine (sp_p (Ev.loc N' S2 (.tl (.tl (.tl .hd)))) fun v3 h3 tk3 n3 s3 => ?_).out
      refine sp_n ?_
      refine wpAny_newObj_type ?_ (by show (2 : Nat) ≤ sizeLine; rw [sizeLine_eq]; decide)
      have S4 := (S2.grow s3).push (tupO [.bytes (byteArr (vEnc n)) t, v3])
      have hl := vB_len 9 n (Nat.lt_trans hn (by decide))
      exact hq _ _ (ret _ _ _ _ _ _ S4 ⟨_, vB n, t, v3, dl, rfl, .inl ⟨n, vB_ok n, hl, hcv.tok n3⟩, by omega, D, rfl⟩)
    refine x_ifW (WP.mono (Q := fun c s => ∃ h tk dl, s = ⟨h, gs, dr, tk, os⟩ ∧ Draw d l dl ∧ St g L' h [Str.ofString "draw", Str.ofString "kind", Str.ofString "bits", Str.ofString "value", Str.ofString "octets", Str.ofString "number", Str.ofString "low"] [some (.ref d), some (.int kind 0), some (.int bits 0), none, none, none, none] dl ∧ (c = false → isV kind)) (WB.wp (WB.or ((Ts.ninTup (is := [3, 4, 5, 8, 13, 17, 18]) (Ev.loc N' S' (.tl .hd)) (.cons Ev.int (.cons Ev.int (.cons Ev.int (.cons Ev.int (.cons Ev.int (.cons Ev.int (.cons Ev.int .nil))))))) (by decide)).use h₁ (stays_refl _) gs dr tk₁ os _ _ fun h2 tk2 s2 => ?_))) ?_)
    · have S2 := S'.grow s2
      split
      · exact ⟨_, _, _, rfl, D, S2, fun e => nomatch e⟩
      · rename_i hnv
        have hV : isV kind := isV_any.mp (by
          cases q : ([3, 4, 5, 8, 13, 17, 18].any fun x => x == kind) with
          | true => rfl
          | false => rw [q] at hnv; exact absurd rfl hnv)
        refine WB.or (w_tcmp (w_take C1 N'.gl (.head _) (rest := []) (by simpa using S2) D (Ev.loc N' S2 .hd) Ev.int (by decide) fun r t h3 tk3 dl3 D3 h30 h31 S3 => Ev.use' Ev.int fun v4 h4 tk4 n4 s4 => ?_) rfl)
        obtain ⟨t4, rfl⟩ := nt_int n4
        rw [List.append_nil] at S3
        refine .mk (eq_int (WP.mk (wpAny_truthy_bool ?_)))
        split
        · exact ⟨_, _, _, rfl, D3, S3.grow s4, fun e => nomatch e⟩
        · exact WB.orN ⟨_, _, _, rfl, D3, S3.grow s4, fun _ => hV⟩
    · rintro c s ⟨h2, tk2, dl2, rfl, D2, S2, hcV⟩
      split
      · clear hcV
        refine x_asg (c_fn (a := 364) (Ev.globC N'.gl C' S2 (by k_is) (.tail _ (.head _)) rfl) fun h3 tk3 s3 => ?_)
        have S3 := S2.grow s3
        refine sp_p (Ev.loc N' S3 .hd) fun v4 h4 tk4 n4 s4 => ?_
        obtain rfl := nt_ref n4
        refine sp_p (Ev.loc N' (S3.grow s4) (.tl .hd)) fun v5 h5 tk5 n5 s5 => ?_
        obtain ⟨t5, rfl⟩ := nt_int n5
        refine sp_p (Ev.loc N' ((S3.grow s4).grow s5) (.tl (.tl .hd))) fun v6 h6 tk6 n6 s6 => ?_
        obtain ⟨t6, rfl⟩ := nt_int n6
        have S6 := ((S3.grow s4).grow s5).grow s6
        refine sp_n ⟨fnAt_K C' S6 (by k_is), (value_ok (rest := []) C' (by simpa using S6) D2 hkw.kb fun vv h7 tk7 dl7 hv D7 S7 => ?_).out⟩
        rw [List.append_nil] at S7
        refine st_loc N' S7 (.tl (.tl (.tl .hd))) fun h8 tk8 S8 => ?_
        refine x_asg (c_fn (a := 369) (Ev.globC N'.gl C' S8 (by k_is) (.tail _ (.tail _ (.head _))) rfl) fun h9 tk9 s9 => ?_)
        have S9 := S8.grow s9
        refine sp_p (Ev.loc N' S9 (.tl .hd)) fun v10 h10 tk10 n10 s10 => ?_
        obtain ⟨t10, rfl⟩ := nt_int n10
        refine sp_p (Ev.loc N' (S9.grow s10) (.tl (.tl (.tl .hd)))) fun v11 h11 tk11 n11 s11 => ?_
        have S11 := (S9.grow s10).grow s11
        have hv11 : VOk kind bits v11 := hv.tok n11
        refine sp_n ⟨fnAt_K C' S11 (by k_is), (bare_ok C' S11 hv11 fun bs t12 h12 tk12 hb S12 => ?_).out⟩
        have G : Good kind bits vv bs := (good_of hv11 hb hkw.kb (fun _ => hkw.big) (fun _ => hkw.small)).tok n11.symm
        have hlen := G.len
        refine st_loc N' S12 (.tl (.tl (.tl (.tl .hd)))) fun h13 tk13 S13 => ?_
        refine x_ifW (WP.mono (Q := fun c s => ∃ h tk dl, s = ⟨h, gs, dr, tk, os⟩ ∧ Draw d l dl ∧ St g L' h [Str.ofString "draw", Str.ofString "kind", Str.ofString "bits", Str.ofString "value", Str.ofString "octets", Str.ofString "number", Str.ofString "low"] [some (.ref d), some (.int kind 0), some (.int bits 0), some (nt vv), some (.bytes bs.toArray 0), none, none] dl ∧ (c = true → isV kind ∧ bs.length < 9)) (WB.wp (WB.and ((Ts.inTup (is := [3, 4, 5, 8, 13, 17, 18]) (Ev.loc N' S13 (.tl .hd)) (.cons Ev.int (.cons Ev.int (.cons Ev.int (.cons Ev.int (.cons Ev.int (.cons Ev.int (.cons Ev.int .nil))))))) (by decide)).use h13 (stays_refl _) gs dr tk13 os _ _ fun h14 tk14 s14 => ?_))) ?_)
        · have S14 := S13.grow s14
          split
          · rename_i hv'
            have hV : isV kind := isV_any.mp hv'
            refine WB.and ((Ts.lt (Ev.lenB (Ev.bi N' C' S14 (by k_is) (.tail _ (.tail _ (.tail _ (.head _)))) PyProof.Rows.Boot.«len» (by decide) rfl) (Ev.loc N' S14 (.tl (.tl (.tl (.tl .hd))))) (by rw [List.size_toArray]; omega)) Ev.int).use h14 (stays_refl _) gs dr tk14 os _ _ fun h15 tk15 s15 => ?_)
            have S15 := S14.grow s15
            split
            · rename_i hl9
              have hl9' : bs.length < 9 := by
                have := hl9
                simp at this
                omega
              refine WB.and (w_tcmp (w_take C1 N'.gl (.head _) (rest := []) (by simpa using S15) D7 (Ev.loc N' S15 .hd) Ev.int (by decide) fun r t h16 tk16 dl16 D16 h160 h161 S16 => Ev.use' Ev.int fun v17 h17 tk17 n17 s17 => ?_) rfl)
              obtain ⟨t17, rfl⟩ := nt_int n17
              rw [List.append_nil] at S16
              refine .mk (eq_int (WP.mk (wpAny_truthy_bool ?_)))
              split
              · exact WB.andN ⟨_, _, _, rfl, D16, S16.grow s17, fun _ => ⟨hV, hl9'⟩⟩
              · exact ⟨_, _, _, rfl, D16, S16.grow s17, fun e => nomatch e⟩
            · exact ⟨_, _, _, rfl, D7, S15, fun e => nomatch e⟩
          · exact ⟨_, _, _, rfl, D7, S14, fun e => nomatch e⟩
        · rintro c s ⟨h14, tk14, dl14, rfl, D14, S14, hcc⟩
          split
          · rename_i hct
            obtain ⟨hV, hl9⟩ := hcc hct
            obtain ⟨raw, hoct, _, hcv⟩ : ∃ raw, VOct bs raw ∧ bs.length ≤ 10 ∧ CV kind vv raw := by
              rcases G with h | h
              · exact h
              · exact absurd hV h.1
            obtain ⟨init, b, rfl, hb128, _⟩ := hoct.split
            have hil : init.length < 8 := by simp at hl9; omega
            refine x_asg (w_bin (w_bin (w_bin (Ev.use' (Ev.sliceB (ys := init) (Ev.loc N' S14 (.tl (.tl (.tl (.tl .hd))))) EvO.none (EvO.some (Ev.neg Ev.int)) (by simp; omega) ?_) fun v15 h15 tk15 n15 s15 => ?_))))
            · show ((init ++ [b]).drop 0).take (clipAt (init ++ [b]).length (-((1 : Nat) : Int)) - 0) = init
              rw [clipAt_neg _ 1 (by decide)]
              simp
            obtain ⟨t15, rfl⟩ := nt_bytes n15
            have S15 := S14.grow s15
            refine c_ty (Ev.bi N' C' S15 (by k_is) (.tail _ (.tail _ (.tail _ (.tail _ (.head _))))) PyProof.Rows.Boot.«bytes» (by decide) rfl) fun h16 tk16 s16 => ?_
            have S16 := S15.grow s16
            refine sp_i (w_list S16 (.cons (Ev.add (Ev.lastB (Ev.loc N' S16 (.tl (.tl (.tl (.tl .hd))))) (Ev.neg Ev.int) (by omega) (fun _ _ => by with_unfolding_all rfl)) Ev.int) .nil) (by simp) fun D17 ws17 h17 tk17 e17 S17 st17 => ?_)
            have hi17 : IntsAre ws17 [((b.toNat : Nat) : Int) + 128] := intsOf e17
            refine (sp_n ?_).out
            refine call_bytes_ints (PySem.IsL.isList (n := 0) (S17.get (.head _))) hi17 (by intro x hx; rw [List.mem_singleton.mp hx]; omega) (by rw [sizeLine_eq, hi17.length]; exact Nat.le_of_ble_eq_true rfl) C'.hand fun h18 t18 tk18 s18 => ?_
            have S18 := (S17.grow s18).drop
            have hb1 : byteArr [((b.toNat : Nat) : Int) + 128] = [(b.toNat + 128).toUInt8].toArray := by
              show [(((b.toNat : Nat) : Int) + 128).toNat.toUInt8].toArray = _
              have : (((b.toNat : Nat) : Int) + 128).toNat = b.toNat + 128 := by omega
              rw [this]
            rw [hb1]
            refine w_addB (by rw [List.length_singleton]; omega) fun t19 tk19 => ?_
            refine w_bin (Ev.use' Ev.cbytes fun v20 h20 tk20 n20 s20 => ?_)
            obtain ⟨t20, rfl⟩ := nt_bytes n20
            have S20 := S18.grow s20
            refine w_take C1 N'.gl (.head _) (rest := []) (by rw [List.append_nil]; exact S20) D14 (Ev.loc N' S20 .hd) Ev.int (by decide) fun r21 t21 h21 tk21 dl21 D21 h210 h211 S21 => ?_
            rw [List.append_nil] at S21
            refine .mk (bytes_mul_any (List.cons_ne_nil _ _) (by omega) (by omega) (by decide) fun t22 tk22 => ?_)
            have hrep : (List.replicate r21.toNat ([128] : List UInt8)).flatten = List.replicate r21.toNat 128 := by
              have : r21 = 0 ∨ r21 = 1 := by omega
              rcases this with rfl | rfl <;> rfl
            have hr1 : r21.toNat ≤ 1 := by omega
            rw [hrep]
            refine w_addB (by rw [List.length_append, List.length_singleton, List.length_replicate]; omega) fun t23 tk23 => ?_
            refine Ev.use' Ev.cbytes fun v24 h24 tk24 n24 s24 => ?_
            obtain ⟨t24, rfl⟩ := nt_bytes n24
            refine w_addB (by rw [List.length_append, List.length_append, List.length_singleton, List.length_singleton, List.length_replicate]; omega) fun t25 tk25 => ?_
            have S24 := S21.grow s24
            refine st_loc N' S24 (.tl (.tl (.tl (.tl .hd)))) fun h26 tk26 S26 => ?_
            have hl26 : (init ++ [(b.toNat + 128).toUInt8] ++ List.replicate r21.toNat 128 ++ [0]).length ≤ 10 := by
              rw [List.length_append, List.length_append, List.length_append, List.length_singleton, List.length_singleton, List.length_replicate]; omega
            refine x_nil ?_
            exact Nx.go (fin _ _ vv _ _ _ _ _ _ _ _ _ (fun _ _ q => q) (.inl ⟨raw, hoct.ext hb128 _, hl26, hcv⟩) (by omega) D21 S26)
          · refine x_nil ?_
            exact Nx.go (fin _ _ vv _ _ _ _ _ _ _ _ _ (fun _ _ q => q) G hlen D14 S14)
      · rename_i hcf
        refine x_nil ?_
        have hV := hcV (by simpa using hcf)
        clear hcV
        refine (x_asg (w_take C1 N'.gl (.head _) (rest := []) (by rw [List.append_nil]; exact S2) D2 (Ev.loc N' S2 .hd) (Ev.shl Ev.int Ev.int (by decide) (by decide) (by decide)) (by decide) fun r3 t3 h3 tk3 dl3 D3 h30 h31 S3 => ?_)).out
        rw [List.append_nil] at S3
        have h31' : r3 < 18446744073709551616 := h31
        obtain ⟨n, rfl⟩ := Int.eq_ofNat_of_zero_le h30
        have hn : n < 18446744073709551616 := by omega
        refine st_loc N' S3 (.tl (.tl (.tl (.tl (.tl .hd))))) fun h4 tk4 S4 => ?_
        refine x_if (Ts.eq (Ev.loc N' S4 (.tl .hd)) Ev.int) (fun hc h5 tk5 s5 => ?_) fun hc h5 tk5 s5 => ?_
        · have S5 := S4.grow s5
          have hk8 : kind = 8 := by simpa using hc
          refine x_retW (.mk (Tuple_ (sp_i (w_varint C1 N'.gl (.tail _ (.tail _ (.tail _ (.tail _ (.tail _ (.head _)))))) S5 (Ev.loc N' S5 (.tl (.tl (.tl (.tl (.tl .hd)))))) (Nat.lt_trans hn (by decide)) fun t h6 tk6 S6 => ?_)).out))
          refine (sp_p (Ev.gt (Ev.loc N' S6 (.tl (.tl (.tl (.tl (.tl .hd)))))) Ev.int) fun v7 h7 tk7 n7 s7 => ?_).out
          obtain rfl := nt_bool n7
          refine sp_n ?_
          refine wpAny_newObj_type ?_ (by show (2 : Nat) ≤ sizeLine; rw [sizeLine_eq]; decide)
          have S8 := (S6.grow s7).push (tupO [.bytes (byteArr (vEnc n)) t, .bool (decide ((0 : Int) < n))])
          have hl := vB_len 9 n (Nat.lt_trans hn (by decide))
          refine ret _ _ _ _ _ _ S8 ⟨_, vB n, t, _, dl3, rfl, .inl ⟨n, vB_ok n, hl, ?_⟩, by omega, D3, rfl⟩
          rw [hk8]
          have : (decide ((0 : Int) < n)) = (n % 2 ^ 64 != 0) := by
            have e : n % 2 ^ 64 = n := Nat.mod_eq_of_lt hn
            rw [e]
            cases n with
            | zero => rfl
            | succ m => simp
          rw [this]
          exact .k8
        refine x_nil (Nx.go ?_)
        have S5 := S4.grow s5
        have hk8 : kind ≠ 8 := by simpa using hc
        obtain ⟨b, rfl, hb1, hb2, hbb⟩ : ∃ b : Nat, bits = b ∧ (b = 32 ∨ b = 64) ∧ (kind = 3 ∨ kind = 4 ∨ kind = 18 → b = 64) ∧ (kind = 5 ∨ kind = 13 ∨ kind = 17 → b = 32) := by
          have h1 := hkw.big
          have h2 := hkw.small
          have hVV : kind = 3 ∨ kind = 4 ∨ kind = 5 ∨ kind = 8 ∨ kind = 13 ∨ kind = 17 ∨ kind = 18 := hV
          have : bits = 32 ∨ bits = 64 := by omega
          exact ⟨bits.toNat, by omega, by omega, by omega, by omega⟩
        have hVV : kind = 3 ∨ kind = 4 ∨ kind = 5 ∨ kind = 8 ∨ kind = 13 ∨ kind = 17 ∨ kind = 18 := hV
        have e1 : ((b : Nat) : Int).toNat = b := by omega
        have e2 : (((b : Nat) : Int) - 1).toNat = b - 1 := by omega
        have hpow : (1 : Int) * 2 ^ ((b : Nat) : Int).toNat = ((2 ^ b : Nat) : Int) := by rw [e1, Int.one_mul]; push_cast; rfl
        have hpos : (0 : Int) < 1 * 2 ^ ((b : Nat) : Int).toNat := by rw [hpow]; have : 0 < 2 ^ b := Nat.pow_pos (by decide); omega
        refine x_assign N' S5 (Ev.cast (u := .int (n % 2 ^ b : Nat) 0) (Ev.mod (Ev.loc N' S5 (.tl (.tl (.tl (.tl (.tl .hd)))))) (Ev.shl Ev.int (Ev.loc N' S5 (.tl (.tl .hd))) (by omega) (by omega) (by decide)) hpos) (by rw [hpow]; rfl)) (.tl (.tl (.tl (.tl (.tl (.tl .hd)))))) fun h6 tk6 S6 => ?_
        refine x_if (Ts.inTup (is := [4, 13]) (Ev.loc N' S6 (.tl .hd)) (.cons Ev.int (.cons Ev.int .nil)) (by decide)) (fun hc h7 tk7 s7 => ?_) fun hc h7 tk7 s7 => ?_
        · have S7 := S6.grow s7
          refine x_assign N' S7 (Ev.loc N' S7 (.tl (.tl (.tl (.tl (.tl (.tl .hd))))))) (.tl (.tl (.tl .hd))) fun h8 tk8 S8 => x_nil ?_
          refine Nx.go (fin2 _ n (.int (n % 2 ^ b : Nat) 0) _ _ _ _ _ _ _ _ _ _ _ _ (fun _ _ q => q) hn ?_ D3 S8)
          simp only [List.any_cons, List.any_nil, Bool.or_false, Bool.or_eq_true, beq_iff_eq] at hc
          rcases hc with rfl | rfl
          · obtain rfl := hb2 (by simp); exact .k4
          · obtain rfl := hbb (by simp); exact .k13
        have S7 := S6.grow s7
        clear s7
        have hc4 : kind ≠ 4 ∧ kind ≠ 13 := by
          simp only [List.any_cons, List.any_nil, Bool.or_false, Bool.or_eq_false_iff, beq_eq_false_iff_ne] at hc
          omega
        refine x_if (Ts.inTup (is := [17, 18]) (Ev.loc N' S7 (.tl .hd)) (.cons Ev.int (.cons Ev.int .nil)) (by decide)) (fun hc h8 tk8 s8 => ?_) fun hc h8 tk8 s8 => ?_
        · have S8 := S7.grow s8
          have ez : CV kind (.int (zz (n % 2 ^ b)) 0) n := by
            simp only [List.any_cons, List.any_nil, Bool.or_false, Bool.or_eq_true, beq_iff_eq] at hc
            rcases hc with rfl | rfl
            · obtain rfl := hbb (by simp); exact .k17
            · obtain rfl := hb2 (by simp); exact .k18
          generalize hm : n % 2 ^ b = m at *
          refine x_assign N' S8 (Ev.ite (c := decide ((m : Int) % 2 = 0)) (v := .int (zz m) 0) (Ts.cast (Ts.eq (Ev.mod (Ev.loc N' S8 (.tl (.tl (.tl (.tl (.tl (.tl .hd))))))) Ev.int (by decide)) Ev.int) (by simp [BEq.beq]))
            (fun h => Ev.cast (Ev.div (Ev.loc N' S8 (.tl (.tl (.tl (.tl (.tl (.tl .hd))))))) Ev.int (by decide) (by decide)) (by unfold zz; simp at h; rw [if_pos (by omega)]; rfl))
            (fun h => Ev.cast (Ev.sub (Ev.neg (Ev.div (Ev.loc N' S8 (.tl (.tl (.tl (.tl (.tl (.tl .hd))))))) Ev.int (by decide) (by decide))) Ev.int) (by unfold zz; simp at h; rw [if_neg (by omega)]; rfl))) (.tl (.tl (.tl .hd))) fun h9 tk9 S9 => x_nil (Nx.go (x_nil ?_))
          exact Nx.go (fin2 _ n (.int (zz m) 0) _ _ _ _ _ _ _ _ _ _ _ _ (fun _ _ q => q) hn ez D3 S9)
        have S8 := S7.grow s8
        have hc17 : kind ≠ 17 ∧ kind ≠ 18 := by
          simp only [List.any_cons, List.any_nil, Bool.or_false, Bool.or_eq_false_iff, beq_eq_false_iff_ne] at hc
          omega
        have es : CV kind (.int (sgn b n) 0) n := by
          have : kind = 3 ∨ kind = 5 := by omega
          rcases this with rfl | rfl
          · obtain rfl := hb2 (by simp); exact .k3
          · obtain rfl := hbb (by simp); exact .k5
        have hpow1 : (1 : Int) * 2 ^ (((b : Nat) : Int) - 1).toNat = ((2 ^ (b - 1) : Nat) : Int) := by rw [e2, Int.one_mul]; push_cast; rfl
        refine x_assign N' S8 (Ev.ite (c := decide (2 ^ (b - 1) ≤ n % 2 ^ b)) (v := .int (sgn b n) 0) (Ts.cast (Ts.ge (Ev.loc N' S8 (.tl (.tl (.tl (.tl (.tl (.tl .hd))))))) (Ev.shl Ev.int (Ev.sub (Ev.loc N' S8 (.tl (.tl .hd))) Ev.int) (by omega) (by omega) (by decide))) (by rw [hpow1]; exact decide_eq_decide.mpr (by omega)))
          (fun h => Ev.cast (Ev.sub (Ev.loc N' S8 (.tl (.tl (.tl (.tl (.tl (.tl .hd))))))) (Ev.shl Ev.int (Ev.loc N' S8 (.tl (.tl .hd))) (by omega) (by omega) (by decide))) (by unfold sgn; rw [if_pos (by simpa using h), e1, Int.one_mul]))
          (fun h => Ev.cast (Ev.loc N' S8 (.tl (.tl (.tl (.tl (.tl (.tl .hd))))))) (by unfold sgn; rw [if_neg (by simpa using h)]))) (.tl (.tl (.tl .hd))) fun h9 tk9 S9 => x_nil (Nx.go (x_nil ?_))
        exact Nx.go (fin2 _ n (.int (sgn b n) 0) _ _ _ _ _ _ _ _ _ _ _ _ (fun _ _ q => q) hn es D3 S9)
  · rintro v h' tk' news' ⟨T, bs, t, vv, dl2, rfl, G, hl, D', rfl⟩ S'
    exact k T bs t vv h' tk' dl2 G hl D' S'
end
end Mine
end
section
open PySem PySem.Spec PySem.Calls PySem.W PyProof.Rows
open LCg (NsObj ns_obj fr_but)
set_option maxRecDepth 100000
set_option maxHeartbeats 4000000
set_option linter.unusedVariables false
namespace Mine

section
variable {prog : Program} {w : World} {loose : List Str} {mean : ExcName → Option Value} {mg mb : Str → Option Value} {A A₀ : Around} {env cenv : Env} {outer : List Env} {base h₀ h : Heap} {L : Addr} {lv : Nat} {ns gl : List Str} {vs vs' : List (Option Value)} {news nw foot rest dl : List (Addr × Obj)} {x y : Str} {v u : Value} {p p' p2 p3 : Pos}
variable {gs : Array GenState} {dr : Drawn} {tk : Nat} {os : OsState} {Q E : Value → Shared → Prop} {QF : Flow → Shared → Prop} {e e1 e2 i o iter : Expr} {pos px : Pos} {d l : Addr} {many : Int} {body rst : List Stmt}

/-- what a turn of a for loop hands on -/
def FK (prog : Program) (w : World) (A : Around) (h₀ : Heap) (L : Addr) (ns : List Str) (gs : Array GenState) (dr : Drawn) (os : OsState) (J : Nat → List (Option Value) → List (Addr × Obj) → Prop) (i : Nat) (tail : List (Addr × Obj)) (rst : List Stmt) (env : Env) (QF : Flow → Shared → Prop) (E : Value → Shared → Prop) : Flow → Shared → Prop
  | .next, s => ∃ h tk vs nw, s = ⟨h, gs, dr, tk, os⟩ ∧ St h₀ L h ns vs (nw ++ tail) ∧ J (i + 1) vs nw
  | .cont, s => ∃ h tk vs nw, s = ⟨h, gs, dr, tk, os⟩ ∧ St h₀ L h ns vs (nw ++ tail) ∧ J (i + 1) vs nw
  | .brk, s => wpAny (model prog w) A (execs rst env) QF E s
  | .ret v, s => QF (.ret v) s
def FGo (prog : Program) (w : World) (A : Around) (h₀ : Heap) (L : Addr) (ns : List Str) (gs : Array GenState) (dr : Drawn) (os : OsState) (env : Env) (set : List (Option Value) → Value → List (Option Value)) (x : Str) (body rst : List Stmt) (QF : Flow → Shared → Prop) (E : Value → Shared → Prop) (it : Value) (s₂ : Shared) : Prop :=
  ∃ I oI n P Sx Lx J h vs nw tk, it = .ref I ∧ s₂ = ⟨h, gs, dr, tk, os⟩ ∧ Wk prog w A h₀ I n P Sx Lx ∧ St h₀ L h ns vs ((I, oI) :: nw) ∧ Sx 0 h ∧ J 0 vs nw ∧
    (∀ i vs nw' h', J i vs nw' → (∀ p ∈ nw', h'.get? p.1 = some p.2) → h₀.StaysIn h' → Lx h') ∧ (∀ i vs nw v, J i vs nw → Pt ns vs x (some (nt v)) (set vs (nt v))) ∧
    (∀ i vs nw tail h tk v E', i < n → P i v → J i vs nw → St h₀ L h ns (set vs (nt v)) (nw ++ tail) → WP prog w A (execs body env) (FK prog w A h₀ L ns gs dr os J i tail rst env QF E) E' ⟨h, gs, dr, tk, os⟩) ∧
    (∀ h tk vs nw, J n vs nw → St h₀ L h ns vs nw → WP prog w A (execs rst env) QF E ⟨h, gs, dr, tk, os⟩)

theorem x_for {s : Shared} (set : List (Option Value) → Value → List (Option Value)) (N : FnEnv env L ns gl)
    (h : WP prog w A (eval iter env) (fun xv s₁ => WP prog w A (pyIter xv) (FGo prog w A h₀ L ns gs dr os env set x body rst QF E) E s₁) E s)
    (hs : ∀ x, foldedSetIterable iter env x = pure x := by intro _; rfl) : WP prog w A (execs (.For (.Name x px) iter body [] p :: rst) env) QF E s := x_cons (.mk (by
  refine wpAny_For (wpAny_mono h.out (fun xv s₁ h₁ => wpAny_mono h₁.out (fun it s₂ h₂ => ?_) fun _ _ e => e) fun _ _ e => e) hs
  obtain ⟨I, oI, n, P, Sx, Lx, J, h, vs, nw, tk, rfl, rfl, W, S, sx, j0, hL, pt, turn, fin⟩ := h₂
  obtain ⟨fp, Wa⟩ := W.walks
  refine codeAny_forLoop (fun k s' => ∃ h' tk i vs nw' oI, s' = ⟨h', gs, dr, tk, os⟩ ∧ i ≤ n ∧ k = n + 1 - i ∧ Sx i h' ∧ J i vs nw' ∧ St h₀ L h' ns vs (nw' ++ [(I, oI)])) ?_ (n + 1) ⟨h, tk, 0, vs, nw, oI, rfl, Nat.zero_le _, rfl, sx, j0, S.rot⟩
  rintro k s' ⟨h', tk, i, vs, nw', oI, rfl, hi, rfl, sx', j', S'⟩
  by_cases hlt : i < n
  · refine Wa.item i _ _ _ hlt sx' fun v h2 tk2 hP sx2 hk2 => ?_
    obtain ⟨oI2, eI2⟩ := W.here _ _ sx2
    have S2 := S'.but (Sel.app .hd nw') (o' := oI2) (fun b x hb e => hk2 b x (by simpa using hb) e) eI2
    refine wpAny_assign_Name (st_loc (prog := prog) (w := w) (A := A) N S2 (pt i vs nw' v j') fun h3 tk3 S3 => ?_).out
    refine wpAny_mono (turn i vs nw' _ h3 tk3 v _ hlt hP j' S3).out (fun f s4 q => ?_) fun _ _ e => e
    have step : (∃ h tk vs nw, s4 = ⟨h, gs, dr, tk, os⟩ ∧ St h₀ L h ns vs (nw ++ [(I, oI2)]) ∧ J (i + 1) vs nw) → ∃ m, m < n + 1 - i ∧ ∃ h' tk i vs nw' oI, s4 = ⟨h', gs, dr, tk, os⟩ ∧ i ≤ n ∧ m = n + 1 - i ∧ Sx i h' ∧ J i vs nw' ∧ St h₀ L h' ns vs (nw' ++ [(I, oI)]) := by
      rintro ⟨h4, tk4, vs4, nw4, rfl, S4, j4⟩
      refine ⟨n + 1 - (i + 1), by omega, h4, tk4, i + 1, vs4, nw4, oI2, rfl, hlt, rfl, ?_, j4, S4⟩
      exact W.keep _ _ _ _ sx2 eI2 (S4.get (List.mem_append.mpr (.inr (.head _)))) (hL _ _ _ _ j4 (fun p hp => S4.get (List.mem_append.mpr (.inl hp))) (S4.elim fun m F _ => F.keep))
    cases f with
    | next => exact step q
    | cont => exact step q
    | brk => exact q
    | ret v => exact q
  · obtain rfl : i = n := Nat.le_antisymm hi (Nat.not_lt.mp hlt)
    refine Wa.done _ _ _ sx' fun h2 tk2 hk2 => ?_
    refine wpAny_execs_nil ?_
    exact (fin h2 tk2 vs nw' j' ((S'.comm : St h₀ L h' ns vs ((I, oI) :: nw')).forget fun b x hb e => hk2 b x (by simpa using hb) e)).out))

/-- o[lo:hi] of a list -/
theorem w_sliceL {lower upper : Option Expr} {a b : Option Int} {s : Shared}
    (q : WP prog w A (eval o env) (fun ov s₁ => ∃ l its h tk news, ov = .ref l ∧ s₁ = ⟨h, gs, dr, tk, os⟩ ∧ St h₀ L h ns vs news ∧ h.IsList l its ∧ its.size ≤ 16777216 ∧ EvO prog w A env h lower a ∧ EvO prog w A env h upper b ∧
      ∀ D h' tk', St h₀ L h' ns vs ((D, listOf (slicePick its a b none) 0) :: news) → h.StaysIn h' → Q (.ref D) ⟨h', gs, dr, tk', os⟩) E s) :
    WP prog w A (eval (.Subscript o (.Slice lower upper none p) p') env) Q E s := .mk (by
  (with_reducible refine Subscript_ (wpAny_mono q.out (fun ov s₁ h₁ => ?_) fun _ _ x => x))
  obtain ⟨l, its, h, tk, news, rfl, rfl, S, hl, hz, ql, qu, k⟩ := h₁
  rw [arm_eval_Slice]
  refine wpAny_bind (ql h (stays_refl h) gs dr tk os _ _ fun lv h3 tk3 pl s3 => ?_).out
  refine wpAny_bind (wpAny_holding (qu h3 s3 gs dr tk3 os _ _ fun uv h4 tk4 pu s4 => ?_).out)
  refine wpAny_bind (wpAny_holding (wpAny_pure ?_))
  refine wpAny_newObj_type ?_ (by size_fits)
  have hl' := ((hl.at fun o e => s3 _ o e).at fun o e => s4 _ o e)
  have hl5 := hl'.push { cls := .type "slice", data := .fields #[lv, uv, .none] }
  refine tail_any hl5.typeIs slot_list_getitem.lookup (wpAny_getItem_list_slice hl5 (Heap.IsSliceOf.new ..) pl pu .none (by simp) ?_ (by rw [sizeLine_eq]; exact hz)) (by with_unfolding_all rfl)
  refine k _ _ _ ((((S.grow s3).grow s4).push { cls := .type "slice", data := .fields #[lv, uv, .none] }).push (listOf (slicePick its a b none) 0)).second ?_
  exact stays_trans s3 (stays_trans s4 (stays_trans (fun b o' e => Heap.get?_push_of_some _ e) fun b o' e => Heap.get?_push_of_some _ e)))
end
end Mine
end
section
open PySem PySem.Spec PySem.Calls PySem.W PyProof.Rows
open LCg (NsObj ns_obj fr_but)
set_option maxRecDepth 100000
set_option maxHeartbeats 4000000
set_option linter.unusedVariables false
namespace Mine

section
variable {prog : Program} {w : World} {loose : List Str} {mean : ExcName → Option Value} {mg mb : Str → Option Value} {A A₀ : Around} {env cenv : Env} {outer : List Env} {base h₀ h : Heap} {L : Addr} {lv : Nat} {ns gl : List Str} {vs vs' : List (Option Value)} {news nw foot rest dl : List (Addr × Obj)} {x y : Str} {v u : Value} {p p' p2 p3 : Pos}
variable {gs : Array GenState} {dr : Drawn} {tk : Nat} {os : OsState} {Q E : Value → Shared → Prop} {e e1 e2 i o f : Expr} {pos : Pos} {d l : Addr} {many z : Int}

theorem Ev.absI (qf : Ev prog w A cenv h f (.builtin "abs")) (q : Ev prog w A cenv h o (.int z 0))
    (he : starEach [o] cenv = [(false, eval o cenv)] := by rfl)
    (hc : eval (.Call f [o] [] pos) cenv = (do callWith pos (← eval f cenv) [] (backTo pos (starEach [o] cenv)) (backToKw pos (keywordEach [] cenv))) := by rfl) :
    Ev prog w A cenv h (.Call f [o] [] pos) (.int (if z < 0 then -z else z) 0) :=
  Ev.call qf hv_bi (fun _ => Looks.of_pure rfl) (EvL.cons q EvL.nil he) (fun ws' h1 gs dr tk os Q E s1 e k => by
    obtain ⟨b, rfl, e'⟩ := map_nt1 e
    obtain ⟨t, rfl⟩ := nt_int e'
    exact .mk (call_abs_int fun u tk => k _ _ _ rfl (stays_refl h1))) (by rw [he]; rfl) he hc

theorem intsGet {xs : List Value} {is : List Int} (h : IntsAre xs is) {i : Nat} {v : Value} (e : xs.toArray[i]? = some v) : ∃ z t, v = .int z t := by
  rw [List.getElem?_toArray] at e
  induction h generalizing i with
  | nil => cases e
  | cons n t _ ih =>
    cases i with
    | zero => cases e; exact ⟨_, _, rfl⟩
    | succ i => exact ih e

/-- _law_draw -/
theorem draw_ok {sc : Addr} {xs : List Value} {is : List Int} (C : Cx w loose mean mg mb A env outer A₀ base h₀ L (lv + 1)) (S : St h₀ L h ns vs rest) (hl : h.IsList sc xs.toArray) (hi : IntsAre xs is) (hz : is.length ≤ 63)
    (k : ∀ d l h' tk' dl', Draw d l dl' → St h₀ L h' ns vs (dl' ++ rest) → Q (.ref d) ⟨h', gs, dr, tk', os⟩) : WP prog w A (PySem.call (.ref 338) [.ref sc]) Q E ⟨h, gs, dr, tk, os⟩ := by
  have hxl : xs.length ≤ 63 := by rw [hi.length]; exact hz
  refine call_fn (foot := []) (rest := rest) (args := ⟨[.ref sc], []⟩) (binds := [(Str.ofString "script", .ref sc)]) (Rel := fun v nw => ∃ d l, v = .ref d ∧ Draw d l nw) (ns' := [Str.ofString "script", Str.ofString "seed", Str.ofString "cell"]) (gl' := [Str.ofString "abs"]) (vs' := [some (.ref sc), none, none]) C S (K_get C S (by k_is)) rfl (K_code C S (by k_is)) (BindsTo.of_eq rfl) (locs rfl) (by decide)
    (fnEnv_of rfl (by decide +kernel) (by decide +kernel) (by decide +kernel) (by decide +kernel)) (hvs_of (ps := [Str.ofString "script"]) (args := [.ref sc]) (by decide +kernel) rfl [Str.ofString "seed", Str.ofString "cell"]) ?_ ?_
  · intro g L' h₁ tk₁ env' A' he hA C' N' S' kp Q' E' ret
    have gl : g.IsList sc xs.toArray := hl.at fun o e => kp _ o (by simp) e
    clear hA kp
    refine x_assign N' S' Ev.int (.tl .hd) fun h2 tk2 S2 => ?_
    refine x_for (h₀ := g) (gs := gs) (dr := dr) (os := os) (fun vs u => vs.set 2 (some u)) N' (Ev.use' (Ev.loc N' S2 .hd) fun v3 h3 tk3 n3 s3 => ?_)
    obtain rfl := nt_ref n3
    have S3 := S2.grow s3
    have gk : ∀ {h' : Heap}, g.StaysIn h' → h'.IsList sc xs.toArray := fun s => gl.at fun o e => s _ o e
    refine it_list C'.hand S3 (gk (S3.elim fun m F _ => F.keep)) fun I oI h4 S4 st4 hne W sx => ?_
    refine ⟨I, oI, _, _, _, _, (fun i vs nw => ∃ seed c, vs = [some (.ref sc), some (.int seed 0), c] ∧ 0 ≤ seed ∧ seed < 2147483647 ∧ nw = []), h4, _, _, _, rfl, rfl, W, S4, sx, ⟨7, none, rfl, by decide, by decide, rfl⟩, fun _ _ _ h' _ _ s => gk s, ?_, ?_, ?_⟩
    · rintro i vs nw v ⟨seed, c, rfl, _, _, rfl⟩
      exact .tl (.tl .hd)
    · rintro i vs nw tail h tk v E' hlt hP ⟨seed, c, rfl, h0, h1, rfl⟩ SS
      obtain ⟨z, t, rfl⟩ := intsGet hi hP
      refine x_assign (vs' := [some (.ref sc), some (.int ((seed * 48271 + (if z < 0 then -z else z) % 65521 + 1) % 2147483647) 0), some (.int z 0)]) N' SS (Ev.mod (Ev.add (Ev.add (Ev.mul (Ev.loc N' SS (.tl .hd)) Ev.int (mulOk (by decide))) (Ev.mod (Ev.absI (Ev.bi N' C' SS (by k_is) (.head _) PyProof.Rows.Boot.«abs» (by decide) rfl) (Ev.loc N' SS (.tl (.tl .hd)))) Ev.int (by decide))) Ev.int) Ev.int (by decide)) (.tl .hd) fun h5 tk5 S5 => x_nil ?_
      exact ⟨h5, tk5, _, [], rfl, S5, _, _, rfl, Int.emod_nonneg _ (by decide), Int.emod_lt_of_pos _ (by decide), rfl⟩
    · rintro h tk vs nw ⟨seed, c, rfl, h0, h1, rfl⟩ SS
      refine x_retW (.mk (List_ (WP.out ?_)))
      refine sp_i (w_sliceL (h₀ := g) (L := L') (ns := [Str.ofString "script", Str.ofString "seed", Str.ofString "cell"]) (vs := [some (.ref sc), some (.int seed 0), c]) (gs := gs) (dr := dr) (os := os) (a := none) (b := some 60) (c_comp (h₀ := g) (L := L') (ns := [Str.ofString "script", Str.ofString "seed", Str.ofString "cell"]) (vs := [some (.ref sc), some (.int seed 0), c]) (gs := gs) (dr := dr) (os := os) (cl := []) (closure_of (by kernel_rfl)) (by decide +kernel) rfl (by decide +kernel) (Ev.use' (Ev.loc N' SS .hd) fun v5 h5 tk5 n5 s5 => ?_)))
      obtain rfl := nt_ref n5
      have S5 := SS.grow s5
      refine it_list C'.hand S5 (gk (S5.elim fun m F _ => F.keep)) fun I oI h6 S6 st6 hne W sx => ?_
      refine ⟨I, oI, _, _, _, _, _, (fun i ys nw => nw = [] ∧ ∃ js, IntsAre ys js ∧ (∀ x ∈ js, 0 ≤ x) ∧ ys.length = i), h6, _, _, rfl, rfl, W, by rw [List.size_toArray]; omega, S6, sx, ⟨rfl, [], .nil, by simp, rfl⟩, fun _ _ _ h' _ _ s => gk s, CBind.name rfl (by decide +kernel), CTurn.plain ?_, ?_⟩
      · rintro i ys nw tail h tk C oC m v E' hlt hP ⟨rfl, js, hj, hr, hlen⟩ SS2 hC hm hB
        obtain ⟨z, t, rfl⟩ := intsGet hi hP
        refine Ev.use' (Ev.absI (Ev.biC (gl := [Str.ofString "abs"]) (N'.gl.comp rfl (by decide +kernel) (by decide +kernel)) C' SS2 (by k_is) (.head _) PyProof.Rows.Boot.«abs» (by decide) rfl) (Ev.cn SS2 hC hm (show m (Str.ofString "cell") = _ from hB) rfl (by decide +kernel) (by decide +kernel) rfl)) fun v7 h7 tk7 n7 s7 => ?_
        obtain ⟨t7, rfl⟩ := nt_int n7
        refine ⟨_, _, [], rfl, SS2.grow s7, rfl, _, ints_snoc hj, ?_, by simp [hlen]⟩
        intro x hx
        rcases List.mem_append.mp hx with hx | hx
        · exact hr x hx
        · rw [List.mem_singleton.mp hx]; split <;> omega
      · rintro D h tk nw' ys yn ⟨rfl, js, hj, hr, hlen⟩ SS2
        have hlen2 : ys.length = xs.length := by rw [hlen, List.size_toArray]
        refine ⟨D, ys.toArray, h, tk, _, rfl, rfl, SS2, PySem.IsL.isList (n := yn) (SS2.get (.head _)), by rw [List.size_toArray]; omega, EvO.none, EvO.some Ev.int, fun D2 h8 tk8 S8 st8 => ?_⟩
        refine (sp_p (Ev.loc N' S8 (.tl .hd)) fun v9 h9 tk9 n9 s9 => ?_).out
        obtain ⟨t9, rfl⟩ := nt_int n9
        have S9 := (S8.grow s9).second
        refine sp_n ?_
        refine (c_newlist (prog := prog) (w := w) (A := A') S9 (fun D3 h10 tk10 S10 st10 l10 => ?_) (by simp)).out
        have hu := kmk_upto (y := 60) hj (by decide)
        refine ret _ _ _ _ _ _ S10 ⟨D3, D2, rfl, ⟨(slicePick ys.toArray none (some 60) none).toList, js.take 60, seed, t9, 0, 0, by rw [Array.toArray_toList], hu, fun i hi => hr i (List.mem_of_mem_take hi), ?_, h0, h1⟩⟩
        have := List.length_take_le 60 js
        show (js.take 60).length ≤ 63
        omega
  · rintro v h' tk' news' ⟨d, l, rfl, D'⟩ S'
    exact k d l h' tk' news' D' S'

/-- _law_new -/
theorem new_ok (C : Cx w loose mean mg mb A env outer A₀ base h₀ L (lv + 1)) (S : St h₀ L h ns vs rest)
    (k : ∀ D h' tk', St h₀ L h' ns vs ((D, listOf #[] 0) :: rest) → Q (.ref D) ⟨h', gs, dr, tk', os⟩) : WP prog w A (PySem.call (.ref 383) [.none]) Q E ⟨h, gs, dr, tk, os⟩ := by
  refine call_fn (foot := []) (rest := rest) (args := ⟨[.none], []⟩) (binds := [(Str.ofString "message", .none)]) (Rel := fun v nw => ∃ D, v = .ref D ∧ nw = [(D, listOf #[] 0)]) (ns' := [Str.ofString "message"]) (gl' := []) (vs' := [some (.none)]) C S (K_get C S (by k_is)) rfl (K_code C S (by k_is)) (BindsTo.of_eq rfl) (locs rfl) (by decide)
    (fnEnv_of rfl (by decide +kernel) (by decide +kernel) (by decide +kernel) (by decide +kernel)) (hvs_of (ps := [Str.ofString "message"]) (args := [.none]) (by decide +kernel) rfl []) ?_ ?_
  · intro g L' h₁ tk₁ env' A' he hA C' N' S' kp Q' E' ret
    clear he hA kp
    refine x_retW (w_list (ws := []) S' EvL.nil (by decide) fun D ws h2 tk2 e2 S2 st2 => ?_)
    obtain rfl := List.map_eq_nil_iff.mp e2
    exact ret _ _ _ _ _ _ S2 ⟨D, rfl, rfl⟩
  · rintro v h' tk' news' ⟨D, rfl, rfl⟩ S'
    exact k D h' tk' S'
end
end Mine
end
section
open PySem PySem.Spec PySem.Calls PySem.W PyProof.Rows
open LCg (NsObj ns_obj fr_but)
set_option maxRecDepth 100000
set_option maxHeartbeats 4000000
set_option linter.unusedVariables false
namespace Mine

/-- the classes that a decoder raises -/
def ExcCls (cls : Value) : Prop := cls = .type "IndexError" ∨ cls = .ref 37 ∨ cls = .ref 61
structure Fresh (h h' : Heap) (e : Addr) (cls : Value) : Prop where
  keeps : h.StaysIn h'
  new : h.get? e = none
  there : ∃ ob t, h'.get? e = some ob ∧ ob.cls = cls ∧ ob.data = .fields #[t, .none, .none, .none, .bool false, .none]
theorem Fresh.ofNew {h h' : Heap} {e : Addr} {X : String} (x : Heap.NewExc h h' e X) : Fresh h h' e (.type X) := ⟨x.keeps, x.new, x.there⟩
theorem Fresh.ofMade {h h' : Heap} {e : Addr} {cls : Value} {args : List Value} (x : Heap.MadeExcOf h h' e cls args) : Fresh h h' e cls :=
  ⟨x.keeps, x.new, let ⟨t, e, _⟩ := x.there; ⟨_, _, e, rfl, rfl⟩⟩
/-- what stands below a frame and is kept over a raise -/
def Kx (base h₀ : Heap) (outer : List Env) (Kp : List (Addr × Obj)) : Prop := ∀ q ∈ Kp, h₀.get? q.1 = some q.2 ∧ base.get? q.1 = none ∧ q.1 ∉ outer.filterMap (·.frame)
/-- an exception in flight -/
def RX (base g : Heap) (l : List Env) (e : Addr) (K : List (Addr × Obj)) (h : Heap) : Prop := (∃ cls, ExcCls cls ∧ RaisedN base l e cls K h) ∧ g.UpToSlots h

section
variable {prog : Program} {w : World} {loose : List Str} {mean : ExcName → Option Value} {mg mb : Str → Option Value} {A A₀ A' : Around} {env env' cenv : Env} {outer : List Env} {base h₀ h g g₂ : Heap} {L L' : Addr} {lv : Nat} {ns gl ns' gl' : List Str} {vs vs' : List (Option Value)} {news nw foot rest dl Kp K : List (Addr × Obj)} {x y : Str} {v u : Value} {p p' p2 p3 : Pos}
variable {gs : Array GenState} {dr : Drawn} {tk : Nat} {os : OsState} {e : Addr} {cls : Value} {s' : Shared}

theorem leaveNew {Q : Unit → Shared → Prop} {E : Value → Shared → Prop} (B₀ : Below A base outer g) (hfr : A'.frames = some (env' :: outer)) (hf : env'.frame = some L') (hk : env'.scope.kind = .function) (S : St g L' h ns vs news) (hx : Fresh h s'.heap e cls) (hc : ExcCls cls) (kx : Kx base g outer Kp)
    (hQ : ∀ h', RX base g outer e (news ++ Kp) h' → Q () { s' with heap := h' }) : wpAny (model prog w) A' (leaving env' (.ref e)) Q E s' := S.elim fun m F _ => by
  have P := pushX (env := env') B₀ F hf hk
  have hin : ∀ en ∈ (env' :: outer), ∀ b, en.frame = some b → b ∈ (env' :: outer).filterMap (·.frame) := fun en he b hb => List.mem_filterMap.mpr ⟨en, he, hb⟩
  have stB : base.StaysIn (hideAll h ((env' :: outer).filterMap (·.frame))) := fun b o q => hideAll_get _ (P.stays b o q) fun hm => by
    rw [(P.frames.mem hm).1] at q; cases q
  have hl : ∀ q ∈ news ++ Kp, (hideAll h ((env' :: outer).filterMap (·.frame))).get? q.1 = some q.2 ∧ base.get? q.1 = none := fun q hq => by
    rcases List.mem_append.mp hq with hq | hq
    · have n := S.nw q hq
      refine ⟨hideAll_get _ n.1 fun hm => ?_, fresh_of_stays B₀.stays n.2.2⟩
      obtain ⟨en, he, hfe⟩ := List.mem_filterMap.mp hm
      rcases List.mem_cons.mp he with rfl | he
      · exact n.2.1 (Option.some.inj (hfe.symm.trans hf))
      · obtain ⟨o, ho, _⟩ := (B₀.frames.mem (List.mem_filterMap.mpr ⟨en, he, hfe⟩)).2
        rw [n.2.2] at ho; cases ho
    · obtain ⟨k1, k2, k3⟩ := kx q hq
      refine ⟨hideAll_get _ (F.keep _ _ k1) fun hm => ?_, k2⟩
      obtain ⟨en, he, hfe⟩ := List.mem_filterMap.mp hm
      rcases List.mem_cons.mp he with rfl | he
      · have : q.1 = L' := Option.some.inj (hfe.symm.trans hf)
        have l := Heap.lt_size k1
        rw [this] at l
        exact absurd (Nat.lt_of_lt_of_le l F.above) (Nat.lt_irrefl _)
      · exact k3 (List.mem_filterMap.mpr ⟨en, he, hfe⟩)
  obtain ⟨ob, tp, he, hcls, hd⟩ := hx.there
  have hen : (hideAll h ((env' :: outer).filterMap (·.frame))).get? e = none := by
    cases q : (hideAll h ((env' :: outer).filterMap (·.frame))).get? e with
    | none => rfl
    | some o => have := of_hideAll _ q; rw [hx.new] at this; cases this
  refine wpAny_leaving_firstW (a0 := tp) hfr ((funFrames_hide P.frames hin).of_keeps fun b o hb _ => ⟨o, hx.keeps b o hb, rfl⟩) hf he (fun b o hb => hx.keeps b o (of_hideAll _ hb)) hen hd rfl rfl fun h' hL => ?_
  obtain ⟨k1, ⟨_, _, k2⟩, k3, k4⟩ := hL
  refine hQ h' ⟨⟨cls, hc, _, tp, stB, hl, k1, hen, k2, ?_⟩, ((Heap.UpToSlots.of_keeps F.keep).trans (Heap.UpToSlots.of_keeps hx.keeps)).trans k4⟩
  rw [← hcls]; exact k3
theorem leaveOn {Q : Unit → Shared → Prop} {E : Value → Shared → Prop} {m : Str → Option Value} (hfr : A'.frames = some (env' :: outer)) (hf : env'.frame = some L') (F : Fr g L' g₂ m) (R : RX base g₂ (env' :: outer) e K s'.heap)
    (hQ : ∀ h', RX base g outer e K h' → Q () { s' with heap := h' }) : wpAny (model prog w) A' (leaving env' (.ref e)) Q E s' := by
  obtain ⟨⟨cls, hc, B, a0, hB, hl, hfl⟩, hsm⟩ := R
  exact wpAny_leaves_onW hfr hf hfl fun h' x1 x2 => hQ h' ⟨⟨cls, hc, B, a0, hB, hl, x1⟩, (Heap.UpToSlots.of_keeps F.keep).trans (hsm.trans x2)⟩

/-- a frame as it stood, and what was made by then -/
structure FrE (h₀ : Heap) (L : Addr) (g₂ : Heap) (m : Str → Option Value) (K : List (Addr × Obj)) : Prop where
  fr : Fr h₀ L g₂ m
  nd : (K.map (·.1)).Nodup
  fresh : ∀ q ∈ K, q.1 ≠ L ∧ h₀.get? q.1 = none
theorem FrE.re {m : Str → Option Value} {a b : List (Addr × Obj)} (F : FrE h₀ L g m a) (p : a.Perm b) : FrE h₀ L g m b := ⟨F.fr, (p.map _).nodup_iff.mp F.nd, fun q hq => F.fresh q (p.mem_iff.mpr hq)⟩
theorem FrE.comm {m : Str → Option Value} {a b : List (Addr × Obj)} (F : FrE h₀ L g m (a ++ b)) : FrE h₀ L g m (b ++ a) := F.re List.perm_append_comm
theorem FrE.assoc {m : Str → Option Value} {a b c : List (Addr × Obj)} (F : FrE h₀ L g m (a ++ b ++ c)) : FrE h₀ L g m (a ++ (b ++ c)) := by rw [← List.append_assoc]; exact F
theorem FrE.drop {m : Str → Option Value} {q : Addr × Obj} {b : List (Addr × Obj)} (F : FrE h₀ L g m (q :: b)) : FrE h₀ L g m b := ⟨F.fr, (List.nodup_cons.mp F.nd).2, fun p hp => F.fresh p (.tail _ hp)⟩
theorem FrE.nil {m : Str → Option Value} {b : List (Addr × Obj)} (F : FrE h₀ L g m (b ++ [])) : FrE h₀ L g m b := by rw [List.append_nil] at F; exact F

/-- how a body may raise -/
structure Rai (prog : Program) (w : World) (A' : Around) (base g : Heap) (L' : Addr) (env' : Env) (outer : List Env) (gs : Array GenState) (dr : Drawn) (os : OsState) (RelE : List (Addr × Obj) → Prop) (Kp : List (Addr × Obj)) (E : Value → Shared → Prop) : Prop where
  own : PassesOwn (model prog w) A' env' E
  new : ∀ e cls h h' tk ns vs news, St g L' h ns vs news → RelE news → ExcCls cls → Fresh h h' e cls → E (.ref e) ⟨h', gs, dr, tk, os⟩
  on : ∀ e g₂ m h' tk newsE, FrE g L' g₂ m newsE → RelE newsE → RX base g₂ (env' :: outer) e (newsE ++ Kp) h' → E (.ref e) ⟨h', gs, dr, tk, os⟩
variable {name qual : Str} {params : Arguments} {body : List Stmt} {scope : Scope} {cl : List (Str × Addr)} {dV kV doc pm cdv ct : Value} {an : Option Addr} {fo : Obj} {f : Addr} {args : Args} {binds : List (Str × Value)} {Rel : Value → List (Addr × Obj) → Prop} {RelE : List (Addr × Obj) → Prop}

/-- a call that may raise -/
theorem call_gx {Q E : Value → Shared → Prop} (C : Cx w loose mean mg mb A env outer A₀ base h₀ L (lv + 1)) (S : St h₀ L h ns vs (foot ++ rest)) (kx : Kx base h₀ outer Kp)
    (ho : h.get? f = some fo) (hdat : fo.data = .func (fnX name qual params body scope cl dV kV doc pm an cdv ct)) (hcd : h.CodeRec cdv qual)
    (hbind : BindsTo ⟨h, gs, dr, tk, os⟩ (fnX name qual params body scope cl dV kV doc pm an cdv ct) args binds)
    (hfe : ∀ L', FnEnv (envG qual scope L' f cdv cl) L' ns' gl') {vs2 : Addr → List (Option Value)} {nw2 : Addr → List (Addr × Obj)}
    (hB : ∀ L', Bd (envG qual scope L' f cdv cl) ns' binds (ns'.map fun _ => none) (cellLed (L' + 1) (nones scope.names) ++ foot) (vs2 L') (nw2 L'))
    (hb : ∀ g L' h₁ tk₁ env' A', env' = envG qual scope L' f cdv cl → A' = A.deeper env' → Cx w loose mean mg mb A' env' (env :: outer) A base g L' lv → FnEnv env' L' ns' gl' → St g L' h₁ ns' (vs2 L') (nw2 L') →
      (∀ b o, b ∉ foot.map (·.1) → h.get? b = some o → g.get? b = some o) → Kx base g (env :: outer) (rest ++ Kp) → ∀ Q' E', Ret g L' gs dr os Rel Q' → Rai prog w A' base g L' env' (env :: outer) gs dr os RelE (rest ++ Kp) E' → WP prog w A' (execs body env') Q' E' ⟨h₁, gs, dr, tk₁, os⟩)
    (k : ∀ v h' tk' news', Rel v news' → St h₀ L h' ns vs (news' ++ rest) → Q v ⟨h', gs, dr, tk', os⟩)
    (kE : ∀ e g₂ m h' tk' newsE, FrE h₀ L g₂ m (newsE ++ rest) → RelE newsE → RX base g₂ (env :: outer) e (newsE ++ (rest ++ Kp)) h' → E (.ref e) ⟨h', gs, dr, tk', os⟩)
    (hco : scope.isCoroutine = false := by rfl) (hgen : scope.isGenerator = false := by rfl) (hk : scope.kind = .function := by rfl) :
    WP prog w A (PySem.call (.ref f) args.pos args.kw) Q E ⟨h, gs, dr, tk, os⟩ := by
  obtain ⟨m, F, hm⟩ := S.fr
  have N1 : News h₀ L h foot := fun p hp => S.nw p (List.mem_append_left _ hp)
  obtain ⟨FG, BG, st, _⟩ := groundX (s := ⟨h, gs, dr, tk, os⟩) (R := fun _ _ => True) C.below F N1 C.frames C.frame C.kind
  have nd := S.nd
  rw [List.map_append, List.nodup_append] at nd
  have kx' : Kx base (hideAll h (foot.map (·.1))) (env :: outer) (rest ++ Kp) := fun q hq => by
    rcases List.mem_append.mp hq with hq | hq
    · have n := S.nw q (List.mem_append.mpr (.inr hq))
      refine ⟨hideAll_get _ n.1 fun hm => nd.2.2 q.1 hm q.1 (List.mem_map_of_mem hq) rfl, fresh_of_stays C.below.stays n.2.2, fun hm => ?_⟩
      obtain ⟨en, he, hfe⟩ := List.mem_filterMap.mp hm
      rcases List.mem_cons.mp he with rfl | he
      · exact n.2.1 (Option.some.inj (hfe.symm.trans C.frame))
      · obtain ⟨o, ho, _⟩ := (C.below.frames.mem (List.mem_filterMap.mpr ⟨en, he, hfe⟩)).2
        rw [n.2.2] at ho; cases ho
    · obtain ⟨k1, k2, k3⟩ := kx q hq
      refine ⟨st _ _ k1, k2, fun hm => ?_⟩
      obtain ⟨en, he, hfe⟩ := List.mem_filterMap.mp hm
      rcases List.mem_cons.mp he with rfl | he
      · have : q.1 = L := Option.some.inj (hfe.symm.trans C.frame)
        have l := Heap.lt_size k1
        rw [this] at l
        exact absurd (Nat.lt_of_lt_of_le l F.above) (Nat.lt_irrefl _)
      · exact k3 (List.mem_filterMap.mpr ⟨en, he, hfe⟩)
  apply WP.mk
  with_reducible refine wpAny_call ?_
  refine codeAny_call_function (fd := fnX name qual params body scope cl dV kV doc pm an cdv ct) (by have := C.depth; unfold recursionLimit; omega) ho hdat hco hgen rfl hcd (hbind _ _ _ _ ?_)
  refine (newEnvG (prog := prog) (w := w) (ns := ns') (gl := gl') hk foot (fun p hp => (N1 p hp).1) nd.1 (hfe _) (hB _) fun h₁ tk₁ Sb kb => ?_).out
  refine ⟨?_, codeAny_func ?_⟩
  · have z := (C.T.nolimit.keeps st)
    exact Sb.elim fun m' F' _ => z.keeps F'.keep
  have Cb : Cx w loose mean mg mb (A.deeper (envG qual scope h.objs.size f cdv cl)) (envG qual scope h.objs.size f cdv cl) (env :: outer) A base (hideAll h (foot.map (·.1))) h.objs.size lv :=
    { below := BG, frames := Around.frames_deeper C.frames, frame := rfl, kind := hk, X := C.X.keeps st, T := C.T.keeps st, hand := C.hand,
      depth := by have := C.depth; show A.depth + 1 + lv ≤ 330; omega, units := by have := C.units; show A.units + 3 + 20 * lv ≤ 8000; omega }
  have body := (hb _ _ h₁ tk₁ _ _ rfl rfl Cb (hfe _) Sb (fun b o hb e => hideAll_get _ e hb) kx' (RetQ Q) (fun e s' => wpAny (model prog w) (A.deeper (envG qual scope h.objs.size f cdv cl)) (leaving (envG qual scope h.objs.size f cdv cl) e) (fun _ s'' => E e s'') (fun e' s'' => E e' s'') s')
    (fun v h' tk' ns2 vs2 news' S' R => k v h' tk' news' R (S'.ret F hm S.nw S.nd rfl)) {
      own := PassesOwn.leaving
      new := fun e cls h2 h' tk' ns2 vs2 news S2 hr hc hx => leaveNew (s' := ⟨h', gs, dr, tk', os⟩) BG Cb.frames rfl hk S2 hx hc kx' fun h3 R => kE e _ m h3 tk' news (by
        have S3 := S2.ret F hm S.nw S.nd rfl
        exact ⟨FG, S3.nd, fun q hq => (S3.nw q hq).2⟩) hr R
      on := fun e g₂ m₂ h' tk' newsE F2 hr R => leaveOn (s' := ⟨h', gs, dr, tk', os⟩) Cb.frames (L' := h.objs.size) rfl F2.fr R fun h3 R3 => kE e _ m h3 tk' newsE (by
        obtain ⟨oL, es, ep, hL, hLd, hLk, hLf⟩ := F.ns
        have nL : L ∉ foot.map (·.1) := fun q => by
          obtain ⟨p, hp, e⟩ := List.mem_map.mp q
          exact (S.nw p (List.mem_append_left _ hp)).2.1 e
        have hLg := hideAll_get (foot.map (·.1)) hL nL
        refine ⟨FG, ?_, fun q hq => ?_⟩
        · rw [List.map_append, List.nodup_append]
          refine ⟨F2.nd, nd.2.1, fun a ha b hb e => ?_⟩
          subst e
          obtain ⟨p, hp, rfl⟩ := List.mem_map.mp ha
          obtain ⟨q, hq, e⟩ := List.mem_map.mp hb
          have z := (F2.fresh p hp).2
          have n := S.nw q (List.mem_append_right _ hq)
          have z2 := hideAll_get (foot.map (·.1)) n.1 fun hm => nd.2.2 q.1 hm q.1 (List.mem_map_of_mem hq) rfl
          rw [← e, z2] at z; cases z
        · rcases List.mem_append.mp hq with hq | hq
          · have z := (F2.fresh q hq).2
            refine ⟨fun e => (by rw [e, hLg] at z; cases z), ?_⟩
            cases q0 : h₀.get? q.1 with
            | none => rfl
            | some o => rw [st _ _ q0] at z; cases z
          · exact (S.nw q (List.mem_append_right _ hq)).2) hr R3 }).out
  refine wpAny_mono body (fun fl s' hq => ?_) (fun _ _ x => x)
  cases fl <;> first | exact hq | exact hq.elim
end
end Mine
end
section
open PySem PySem.Spec PySem.Calls PySem.W PyProof.Rows
open LCg (NsObj ns_obj fr_but)
set_option maxRecDepth 100000
set_option maxHeartbeats 4000000
set_option linter.unusedVariables false
namespace Mine

/-- a code object, by itself -/
def CodeO (oc : Obj) (c P : Addr) (qual : Str) : Prop := ∀ h : Heap, h.get? c = some oc → CodeHd h c P ∧ h.CodeRec (.ref c) qual
abbrev fnO (name qual : Str) (params : Arguments) (body : List Stmt) (scope : Scope) (clos : List (Str × Addr)) (dV doc pm : Value) (c' : Addr) (ctv : Value) : Obj :=
  { cls := .type "function", data := .func (fnX name qual params body scope clos dV .none doc pm none (.ref c') ctv) }
theorem CodeO.of {h : Heap} {c P : Addr} {qual : Str} (a : CodeHd h c P) (b : h.CodeRec (.ref c) qual) : ∃ oc, h.get? c = some oc ∧ CodeO oc c P qual := by
  obtain ⟨o, vs, file, tf, flags, tg, inF, text, tt, e, r1, r2, r⟩ := a
  refine ⟨o, e, fun h' e' => ⟨⟨o, vs, file, tf, flags, tg, inF, text, tt, e', r1, r2, r⟩, ?_⟩⟩
  obtain ⟨c2, o2, vs2, t2, q1, q2, q3, q4⟩ := b
  cases q1
  rw [e] at q2
  cases q2
  exact ⟨c, o, vs2, t2, rfl, e', q3, q4⟩

section
variable {M : Model} {A : Around} {E : Value → Shared → Prop} {s : Shared} {name qual : Str} {params : Arguments} {body : List Stmt} {scope : Scope} {env : Env} {c P : Addr} {ps : Array Value} {pos : Pos} {firstLine : Nat} {mg : Str → Option Value} {clos : List (Str × Addr)} {Q : Value → Shared → Prop} {dV : Value}
theorem mkTail (hcl : closureFor scope env = pure clos) (hge0 : env.globals = mainGlobals) (hg : s.heap.Ns mainGlobals mg) (hcode : env.code = .ref c) (C : CodeHd s.heap c P) (hP : s.heap.get? P = some (tabObj ps)) (ht : TriplesOk ps.toList)
    (hnf : codeAmong pos ps.toList = none) (hgP : mainGlobals ≠ P) (hb : s.heap.BuiltinsAt mg P)
    (h : ∀ c' P' ctv doc h' tk, Heap.ExtBut P s.heap h' → s.heap.objs.size ≤ c' → c' < h'.objs.size → s.heap.objs.size ≤ P' → h'.CodeRec (.ref c') qual → CodeHd h' c' P' → h'.get? P' = some (tabObj #[]) → h'.get? P = some (tabObj (ps ++ #[rawInt pos.line, rawInt pos.col, .ref c'])) →
      Q (.ref h'.objs.size) { s with heap := h'.push (fnO name qual params body scope clos dV doc ((mg "__name__").getD .none) c' ctv), toks := tk }) :
    wpAny M A (makeTail name qual params (.stmts body) scope env dV .none none pos firstLine) Q E s := by
  obtain ⟨bm, ob, hbm, hne0, _, hneP, hbo, hcls, hdict, hdata⟩ := hb
  have tab : ∀ {h' : Heap} {c' P' : Addr}, h'.TableAt c' P' #[] → h'.get? P' = some (tabObj #[]) := fun x => x.2
  unfold makeTail
  rw [hcl, hge0]
  refine wpAny_bind (wpAny_pure ?_)
  cases clos with
  | nil =>
    simp only [List.isEmpty_nil, if_true]
    refine wpAny_bind (wpAny_pure ?_)
    refine wpAny_bind (wpAny_functionCodeX hcode (C.code hP ht) (C.tab hP) hnf fun c' h' tk hx hge hlt _ hrec htb hn => ?_)
    obtain ⟨P', q1, q2, q3⟩ := hn
    have hg' := hg.extBut hx hgP
    refine wpAny_bind (wpAny_builtinsFor hg' hbm hne0 (hx _ _ hneP hbo) hcls hdict hdata ?_)
    refine wpAny_bind (wpAny_nsGet hg' ?_)
    cases hdoc : docOf body with
    | none => exact wpAny_bind (by simp only [hdoc]; exact wpAny_pure (wpAny_newObj_type (h c' P' .none .none h' tk hx hge hlt q1 hrec (CodeHd.of q2 q3) (tab q3) htb.2) (by size_fits)))
    | some t => exact wpAny_bind (by simp only [hdoc]; exact wpAny_mkText (wpAny_newObj_type (h c' P' .none _ h' _ hx hge hlt q1 hrec (CodeHd.of q2 q3) (tab q3) htb.2) (by size_fits)))
  | cons q r =>
    simp only [List.isEmpty_cons, Bool.false_eq_true, if_false]
    refine wpAny_bind (wpAny_newTextTuple ?_)
    refine wpAny_bind (wpAny_functionCodeX hcode ((C.keeps fun b o e => Heap.get?_push_of_some _ e).code (Heap.get?_push_of_some _ hP) ht) ((C.keeps fun b o e => Heap.get?_push_of_some _ e).tab (Heap.get?_push_of_some _ hP)) hnf fun c' h' tk hx hge hlt _ hrec htb hn => ?_)
    obtain ⟨P', q1, q2, q3⟩ := hn
    have hg' := (hg.push _).extBut hx hgP
    have hx' : Heap.ExtBut P s.heap h' := fun b o hb' e => hx b o hb' (Heap.get?_push_of_some _ e)
    have hge' : s.heap.objs.size ≤ c' := Nat.le_trans (by rw [Heap.size_push]; omega) hge
    have q1' : s.heap.objs.size ≤ P' := Nat.le_trans (by rw [Heap.size_push]; omega) q1
    refine wpAny_bind (wpAny_builtinsFor hg' hbm hne0 (hx' _ _ hneP hbo) hcls hdict hdata ?_)
    refine wpAny_bind (wpAny_nsGet hg' ?_)
    cases hdoc : docOf body with
    | none => exact wpAny_bind (by simp only [hdoc]; exact wpAny_pure (wpAny_newObj_type (h c' P' _ .none h' tk hx' hge' hlt q1' hrec (CodeHd.of q2 q3) (tab q3) htb.2) (by size_fits)))
    | some t => exact wpAny_bind (by simp only [hdoc]; exact wpAny_mkText (wpAny_newObj_type (h c' P' _ _ h' _ hx' hge' hlt q1' hrec (CodeHd.of q2 q3) (tab q3) htb.2) (by size_fits)))
end

section
variable {prog : Program} {w : World} {loose : List Str} {mean : ExcName → Option Value} {mg mb : Str → Option Value} {A A₀ : Around} {env : Env} {outer : List Env} {base h₀ h : Heap} {L c P : Addr} {lv : Nat} {ns gl : List Str} {vs vs' : List (Option Value)} {news : List (Addr × Obj)} {x : Str}
variable {gs : Array GenState} {dr : Drawn} {tk : Nat} {os : OsState} {name qual : Str} {params : Arguments} {body : List Stmt} {scope : Scope} {ps : Array Value} {pos : Pos} {clos : List (Str × Addr)} {Q E : Value → Shared → Prop} {dV : Value}

theorem apartG (C : Cx w loose mean mg mb A env outer A₀ base h₀ L lv) (S : St h₀ L h ns vs news) (hm : (P, tabObj ps) ∈ news) : h.Ns mainGlobals mg ∧ mainGlobals ≠ P ∧ h.BuiltinsAt mg P := S.elim fun m F _ => by
  have n := S.nw _ hm
  have hgs := C.T.g.keeps F.keep
  obtain ⟨bm, ob, b1, b2, b3, b4, b5, b6⟩ := C.T.bmain
  refine ⟨hgs, fun q => ?_, bm, ob, b1, b2, fun q => ?_, fun q => ?_, F.keep _ _ b3, b4, b5, b6⟩
  · obtain ⟨o, es, ep, e, hd, _⟩ := hgs
    rw [q, n.1] at e; cases e; cases hd
  · obtain ⟨o, es, ep, e, hd, _⟩ := C.T.g
    rw [q, e] at b3; cases b3; rw [hd] at b6; cases b6
  · have e := F.keep _ _ b3
    rw [q, n.1] at e; cases e; cases b4

/-- a nested def, its code anew -/
theorem w_tail {nw : Addr → List (Addr × Obj)} (N : FnEnv env L ns gl) (C : Cx w loose mean mg mb A env outer A₀ base h₀ L lv) (S : St h₀ L h ns vs news) (hcode : env.code = .ref c) (hd : CodeHd h c P)
    (sel : ∀ c', Sel P (tabObj ps) (tabObj (ps ++ #[rawInt pos.line, rawInt pos.col, .ref c'])) news (nw c')) (hcl : closureFor scope env = pure clos) (ht : TriplesOk ps.toList) (hnf : codeAmong pos ps.toList = none)
    (k : ∀ f c' P' oc ctv doc pm h' tk', CodeO oc c' P' qual → St h₀ L h' ns vs ((f, fnO name qual params body scope clos dV doc pm c' ctv) :: (c', oc) :: (P', tabObj #[]) :: nw c') → Q (.ref f) ⟨h', gs, dr, tk', os⟩) :
    WP prog w A (makeTail name qual params (.stmts body) scope env dV .none none pos pos.line) Q E ⟨h, gs, dr, tk, os⟩ := .mk (by
  have hm := (sel 0).mem
  obtain ⟨a1, a2, a3⟩ := apartG C S hm
  have n := S.nw _ hm
  refine mkTail (mg := mg) hcl N.globals a1 hcode hd n.1 ht hnf a2 a3 fun c' P' ctv doc h' tk' hx hge hlt hgP hrec hcd hPt htb => ?_
  obtain ⟨oc, eoc, hco⟩ := CodeO.of hcd hrec
  have S1 : St h₀ L h' ns vs (nw c') := S.but (sel c') (fun b o hb e => hx b o hb e) htb
  have ad := (sel c').addrs
  have low : ∀ p ∈ nw c', p.1 < h.objs.size := fun p hp => by
    have : p.1 ∈ news.map (·.1) := by rw [← ad]; exact List.mem_map_of_mem hp
    obtain ⟨q, hq, e⟩ := List.mem_map.mp this
    rw [← e]; exact Heap.lt_size (S.nw q hq).1
  have hcP : c' ≠ P' := by obtain ⟨_, _, _, _, _, _, _, _, _, _, _, _, _, _, _, _, _, _, hne⟩ := hcd; exact hne
  have S2 : St h₀ L h' ns vs ((c', oc) :: (P', tabObj #[]) :: nw c') := S1.elim fun m F back => by
    have fresh : ∀ b, h.objs.size ≤ b → h₀.get? b = none := fun b hb => S.elim fun m F2 _ => Heap.get?_none_of_le (Nat.le_trans (Nat.le_of_lt (Nat.lt_of_le_of_lt F2.above F2.ns.lt)) hb)
    have hL : L < h.objs.size := S.elim fun m F2 _ => F2.ns.lt
    refine back _ _ F (fun p hp => ?_) ?_
    · rcases List.mem_cons.mp hp with rfl | hp
      · exact ⟨eoc, Nat.ne_of_gt (Nat.lt_of_lt_of_le hL hge), fresh _ hge⟩
      · rcases List.mem_cons.mp hp with rfl | hp
        · exact ⟨hPt, Nat.ne_of_gt (Nat.lt_of_lt_of_le hL hgP), fresh _ hgP⟩
        · exact S1.nw p hp
    · have nd := S1.nd
      refine List.nodup_cons.mpr ⟨fun q => ?_, List.nodup_cons.mpr ⟨fun q => ?_, nd⟩⟩
      · rcases List.mem_cons.mp q with e | q
        · exact hcP e
        · obtain ⟨p, hp, e⟩ := List.mem_map.mp q
          have l := low p hp
          rw [e] at l
          exact absurd (Nat.lt_of_lt_of_le l hge) (Nat.lt_irrefl _)
      · obtain ⟨p, hp, e⟩ := List.mem_map.mp q
        have l := low p hp
        rw [e] at l
        exact absurd (Nat.lt_of_lt_of_le l hgP) (Nat.lt_irrefl _)
  exact k _ c' P' oc ctv doc _ _ tk' hco (S2.push _))
/-- a nested def, its code at hand -/
theorem w_tailHit {c' : Addr} (N : FnEnv env L ns gl) (C : Cx w loose mean mg mb A env outer A₀ base h₀ L lv) (S : St h₀ L h ns vs news) (hcode : env.code = .ref c) (hd : CodeHd h c P)
    (hm : (P, tabObj ps) ∈ news) (hcl : closureFor scope env = pure clos) (ht : TriplesOk ps.toList) (hf : codeAmong pos ps.toList = some (.ref c'))
    (k : ∀ f ctv doc pm h' tk', St h₀ L h' ns vs ((f, fnO name qual params body scope clos .none doc pm c' ctv) :: news) → Q (.ref f) ⟨h', gs, dr, tk', os⟩) :
    WP prog w A (makeFunction name qual params (.stmts body) scope env [] [] [] pos pos.line) Q E ⟨h, gs, dr, tk, os⟩ := .mk (by
  obtain ⟨a1, a2, a3⟩ := apartG C S hm
  refine makeFunction_hit (mg := mg) hcl N.globals a1 hcode hd (S.get hm) ht hf a3 fun ctv doc h' tk' hk hsz => ?_
  exact k _ ctv doc _ _ tk' ((S.grow hk).push _))
theorem w_mk0 (hq : WP prog w A (makeTail name qual params (.stmts body) scope env .none .none none pos pos.line) Q E ⟨h, gs, dr, tk, os⟩) : WP prog w A (makeFunction name qual params (.stmts body) scope env [] [] [] pos pos.line) Q E ⟨h, gs, dr, tk, os⟩ := .mk (by
  rw [makeFunction_eq]
  simp only [List.zip_nil_right, List.filterMap_nil, List.isEmpty_nil, if_true, pure_bind]
  exact hq.out)
theorem w_mk1 {dv : Value} (S : St h₀ L h ns vs news) (k : ∀ t h', St h₀ L h' ns vs ((t, kdv_tup [dv]) :: news) → WP prog w A (makeTail name qual params (.stmts body) scope env (.ref t) .none none pos pos.line) Q E ⟨h', gs, dr, tk, os⟩) :
    WP prog w A (makeFunction name qual params (.stmts body) scope env [dv] [] [] pos pos.line) Q E ⟨h, gs, dr, tk, os⟩ := .mk (by
  rw [makeFunction_eq]
  simp only [List.zip_nil_right, List.filterMap_nil, List.isEmpty_nil, if_true, pure_bind, List.isEmpty_cons, Bool.false_eq_true, if_false]
  exact wpAny_bind (wpAny_newTextTuple (k _ _ (S.push _)).out))

/-- def name(..): .. , without defaults -/
theorem x_def {QF : Flow → Shared → Prop} {EF : Value → Shared → Prop} {rest : List Stmt} {s : Shared} (hd0 : params.defaults = []) (hk0 : params.kw_defaults = []) (ha : annTrees params none env = [])
    (h : WP prog w A (makeFunction name (qualnameIn env name name) params (.stmts body) scope env [] [] [] pos pos.line) (fun v s' => WP prog w A (storeName env name v) (fun _ s'' => WP prog w A (execs rest env) QF EF s'') EF s') EF s) :
    WP prog w A (execs (.FunctionDef name params body [] none [] scope none name pos :: rest) env) QF EF s := x_cons (.mk (nestDef_K hd0 hk0 ha (wpAny_mono h.out (fun v s' h' => wpAny_mono h'.out (fun _ _ h'' => h''.out) fun _ _ x => x) fun _ _ x => x)))
/-- def name(.., x=constant): .. -/
theorem x_def1 {QF : Flow → Shared → Prop} {EF : Value → Shared → Prop} {rest : List Stmt} {s : Shared} {d : Expr} (hd : params.defaults.isEmpty = false) (hd0 : params.defaults = [d]) (hk0 : params.kw_defaults = []) (ha : annTrees params none env = [])
    (h : WP prog w A (eval d env) (fun dv s₁ => WP prog w A (makeFunction name (qualnameIn env name name) params (.stmts body) scope env [dv] [] [] pos pos.line) (fun v s' => WP prog w A (storeName env name v) (fun _ s'' => WP prog w A (execs rest env) QF EF s'') EF s') EF s₁) EF s) :
    WP prog w A (execs (.FunctionDef name params body [] none [] scope none name pos :: rest) env) QF EF s := x_cons (.mk (by
  refine kdv_def hd hk0 ha ?_
  rw [hd0]
  exact kdv_all1 (wpAny_mono h.out (fun dv s₁ h₁ => kdv_all0 (wpAny_mono h₁.out (fun v s' h' => wpAny_mono h'.out (fun _ _ h'' => h''.out) fun _ _ x => x) fun _ _ x => x)) fun _ _ x => x)))
end
end Mine
end
section
open PySem PySem.Spec PySem.Calls PySem.W PyProof.Rows
open LCg (NsObj ns_obj fr_but)
set_option maxRecDepth 100000
set_option maxHeartbeats 4000000
set_option linter.unusedVariables false
namespace Mine

theorem meets_bytes_out (b : Array UInt8) (i : Int) (t u : Tok) (hr : Builtin.Bytes.fitsIndex i = true) (h : (seqIndex? i b.size).bind (b[·]?) = none) : Meets (Builtin.«bytes.__getitem__» ⟨[.bytes b t, .int i u], []⟩) (raisesNew "IndexError") := fun prog w A R s hS => by
  show wpAny _ A.in1 (Builtin.Bytes.subscript? (.int i u) >>= fun r => _) _ _ s
  refine wpAny_bind ?_
  unfold Builtin.Bytes.subscript?
  refine wpAny_bind (wpAny_specialOf (typeIs_int s i u) F.slot_int_index.lookup ?_)
  show wpAny _ A.in1 (if (!Builtin.Bytes.fitsIndex i) = true then _ else pure (some i)) _ _ s
  rw [hr]
  refine wpAny_pure ?_
  show wpAny _ A.in1 (match (seqIndex? i b.size).bind (b[·]?) with | some x => retInt x.toNat | none => _) _ _ s
  rw [h]
  have hA : A.in1.handled = none := hS.1
  have hE := hS.2
  first
    | exact wpAny_bind (wpAny_rule (by exact_raiseError plainExc_IndexError hA hE))
    | exact wpAny_bind (wpAny_rule (wpAny_bind (by exact_raiseError plainExc_IndexError hA hE)))
    | exact wpAny_bind (wpAny_bind (wpAny_rule (by exact_raiseError plainExc_IndexError hA hE)))
    | exact wpAny_rule (by exact_raiseError plainExc_IndexError hA hE)

section
variable {prog : Program} {w : World} {A : Around} {env : Env} {h : Heap} {o i lo hi e t f : Expr} {p p' pos : Pos} {xs ys : List UInt8} {x : Int} {v : Value} {gs : Array GenState} {dr : Drawn} {tk : Nat} {os : OsState} {Q E : Value → Shared → Prop} {QF : Flow → Shared → Prop} {b1 rest : List Stmt}
theorem w_itemOut (hh : A.handled = none) (qo : Ev prog w A env h o (.bytes xs.toArray 0)) (qi : Ev prog w A env h i (.int x 0)) (hx : (xs.length : Int) ≤ x) (hx2 : x < 2 ^ 62)
    (kE : ∀ h1 h' tk e, h.StaysIn h1 → Heap.NewExc h1 h' e "IndexError" → E (.ref e) ⟨h', gs, dr, tk, os⟩)
    (hs : ∀ o v, subscripted i false o v = operate [o, v] (getItem o v)) : WP prog w A (eval (.Subscript o i p') env) Q E ⟨h, gs, dr, tk, os⟩ := .mk (by
  (with_reducible refine Subscript_ (qo.use h (stays_refl h) gs dr tk os _ _ fun v' h2 tk2 n2 s2 => (qi.use h2 s2 gs dr tk2 os _ _ fun v3 h3 tk3 n3 s3 => ?_).out).out)
  obtain ⟨t2, rfl⟩ := nt_bytes n2
  obtain ⟨t3, rfl⟩ := nt_int n3
  refine tail_of_ItemOn ⟨"bytes", _, FB.slot_bytes_getitem.lookup, typeIs_bytes _ _ _, getItem_meets (typeIs_bytes _ _ _) (by decide) FB.slot_bytes_getitem FB.entry_bytes_getitem (FB.args_bytes_getitem_2 _ _) (meets_bytes_out _ _ _ _ ?_ ?_)
    ⟨hh, fun h' tk' e hn => kE h3 h' tk' e (stays_trans s2 s3) hn⟩⟩ (hs _ _) (letTemp o _ _)
  · simp only [Builtin.Bytes.fitsIndex, Bool.and_eq_true, decide_eq_true_eq]; omega
  · have e1 : seqIndex? x xs.toArray.size = none := by
      unfold seqIndex?
      have : ¬ x < 0 := by omega
      simp only [this, if_false, List.size_toArray]
      rw [if_neg]
      simp only [Bool.and_eq_true, decide_eq_true_eq]
      omega
    rw [e1]; rfl)

/-- x op= e of ints -/
theorem x_aug {h₀ : Heap} {L : Addr} {ns gl : List Str} {vs vs' : List (Option Value)} {news : List (Addr × Obj)} {nm : Str} {a b z : Int} {op : Operator} (N : FnEnv env L ns gl) (S : St h₀ L h ns vs news) (pk : Pk ns vs nm (.int a 0)) (q : Ev prog w A env h e (.int b 0)) (pt : Pt ns vs nm (some (.int z 0)) vs')
    (ho : ∀ t u s (Q E : Value → Shared → Prop), Q (.int z s.toks) { s with toks := s.toks + 1 } → wpAny (model prog w) A (inplaceOp op (.int a t) (.int b u)) Q E s)
    (k : ∀ h' tk', St h₀ L h' ns vs' news → WP prog w A (execs rest env) QF E ⟨h', gs, dr, tk', os⟩) : WP prog w A (execs (.AugAssign (.Name nm p') op e p :: rest) env) QF E ⟨h, gs, dr, tk, os⟩ := x_cons (.mk (by
  obtain ⟨m, F, hm⟩ := S.fr
  have e1 := hm nm
  rw [pk.get N.nd] at e1
  obtain ⟨v', hv, hn⟩ := Option.map_eq_some_iff.mp e1
  obtain ⟨t, rfl⟩ := nt_int hn
  refine wpAny_AugAssign_Name (wpAny_loadName_local N.kind (N.loc nm pk.mem) (N.locals ▸ F.ns) hv ?_)
  refine (q.use h (stays_refl h) gs dr tk os _ _ fun v2 h2 tk2 n2 s2 => ?_).out
  obtain ⟨u, rfl⟩ := nt_int n2
  refine ho t u _ _ _ ?_
  exact (st_loc (prog := prog) (w := w) (A := A) (E := E) N (S.grow s2) pt fun h3 tk3 S3 => (k h3 tk3 S3).out).out))

/-- while, the body may raise -/
theorem x_whileR (hp : PassesOwn (model prog w) A env E) (I : Nat → Heap → Prop) {n : Nat} (i0 : I n h)
    (step : ∀ n h (tk : Nat), I n h → ∃ c, Ts prog w A env h t c ∧ (c = true → ∀ h2 tk2, h.StaysIn h2 → WP prog w A (execs b1 env) (LK prog w A gs dr os I n rest env QF E) E ⟨h2, gs, dr, tk2, os⟩) ∧
      (c = false → ∀ h2 tk2, h.StaysIn h2 → WP prog w A (execs rest env) QF E ⟨h2, gs, dr, tk2, os⟩)) :
    WP prog w A (execs (.While t b1 [] p :: rest) env) QF E ⟨h, gs, dr, tk, os⟩ := by
  refine x_cons (.mk (wpAny_While ?_))
  refine codeAny_whileLoop (fun n s => ∃ h tk, I n h ∧ s = ⟨h, gs, dr, tk, os⟩) ?_ n ⟨h, tk, i0, rfl⟩
  rintro n s ⟨h, tk, i, rfl⟩
  obtain ⟨c, ts, k1, k2⟩ := step n h tk i
  refine (ts.use h (stays_refl h) gs dr tk os _ _ fun h2 tk2 s2 => ?_).out
  cases c with
  | true =>
    rw [if_pos rfl]
    refine wpAny_passesOwn hp (wpAny_mono (k1 rfl h2 tk2 s2).out (fun f s3 z => ?_) fun _ _ x => x)
    cases f with
    | next => obtain ⟨m, h', tk', a, b, c⟩ := z; exact ⟨m, a, h', tk', b, c⟩
    | cont => obtain ⟨m, h', tk', a, b, c⟩ := z; exact ⟨m, a, h', tk', b, c⟩
    | brk => exact z
    | ret v => exact z
  | false =>
    rw [if_neg Bool.false_ne_true]
    exact wpAny_execs_nil (k2 rfl h2 tk2 s2).out

/-- a call whose function is itself called for -/
theorem c_fnW {b : Expr} {bs : List Expr} {s : Shared} (qf : WP prog w A (eval f env) (fun fv s₁ => ∃ a, fv = .ref a ∧ FnAt a s₁.heap ∧ WP prog w A (spliced (backTo pos (starEach (b :: bs) env))) (fun vs s₂ => FnAt a s₂.heap ∧ wpAny (model prog w) A (PySem.call (.ref a) vs) Q E s₂) E s₁) E s)
    (hpl : (backTo pos (starEach (b :: bs) env)).any (·.1) = false := by rfl) (he : starEach (b :: bs) env = (false, eval b env) :: starEach bs env := by rfl)
    (hc : eval (.Call f (b :: bs) [] pos) env = (do callWith pos (← eval f env) [] (backTo pos (starEach (b :: bs) env)) (backToKw pos (keywordEach [] env))) := by rfl) :
    WP prog w A (eval (.Call f (b :: bs) [] pos) env) Q E s :=
  .mk (by
    (with_reducible refine Call_ (wpAny_mono qf.out (fun fv s₁ q => ?_) fun _ _ x => x) hc)
    obtain ⟨a, rfl, hf, q⟩ := q
    refine callWith_of (P := FnAt a) (by rw [hpl]; rfl) keeps_F ?_
    have z := q.out
    rw [bt_cons he] at z ⊢
    exact evalArgs_plain z)
end

theorem and_apart {a m s : Nat} (h : a < 2 ^ s) : a &&& m * 2 ^ s = 0 := by
  apply Nat.eq_of_testBit_eq
  intro i
  rw [Nat.testBit_and, Nat.zero_testBit, Nat.testBit_mul_two_pow]
  by_cases hi : s ≤ i
  · rw [Nat.testBit_lt_two_pow (Nat.lt_of_lt_of_le h (Nat.pow_le_pow_right (by decide) hi))]
    rfl
  · simp [hi]
theorem or_add {a m s : Nat} (h : a < 2 ^ s) : Builtin.bitOr (a : Int) ((m : Int) * 2 ^ s) = ((a + m * 2 ^ s : Nat) : Int) := by
  have e : ((m : Int) * 2 ^ s) = ((m * 2 ^ s : Nat) : Int) := by push_cast; rfl
  rw [e, bitOr_and]
  have : Builtin.bitAnd (a : Int) ((m * 2 ^ s : Nat) : Int) = 0 := by
    unfold Builtin.bitAnd
    simp only [Int.natCast_nonneg, decide_true, Int.toNat_natCast]
    rw [and_apart h]; rfl
  rw [this]
  omega
theorem and128 {b : Nat} (h : b < 256) : (Builtin.bitAnd (b : Int) 128 != 0) = decide (128 ≤ b) := by
  have key : ∀ b : Fin 256, (Builtin.bitAnd ((b.val : Nat) : Int) 128 != 0) = decide (128 ≤ b.val) := by decide +kernel
  exact key ⟨b, h⟩
end Mine
end
section
open PySem PySem.Spec PySem.Calls PySem.W PyProof.Rows
open LCg (NsObj ns_obj fr_but)
set_option maxRecDepth 100000
set_option maxHeartbeats 4000000
set_option linter.unusedVariables false
namespace Mine

/-- a table of nested defs' codes: bare, or with its one entry -/
def VTab (P : Addr) (l c : Int) (qual : Str) (tl : List (Addr × Obj)) : Prop :=
  tl = [(P, tabObj #[])] ∨ ∃ c' oc P', tl = [(P, tabObj #[rawInt l, rawInt c, .ref c']), (c', oc)] ∧ CodeO oc c' P' qual
abbrev VT1 (tl : List (Addr × Obj)) : Prop := VTab 123 56 4 (Str.ofString "_VarintDecoder.<locals>.DecodeVarint") tl
abbrev VT2 (tl : List (Addr × Obj)) : Prop := VTab 130 74 4 (Str.ofString "_SignedVarintDecoder.<locals>.DecodeVarint") tl
/-- what of a varint's octets lies in the buffer -/
def Dt (full : Bool) (post os dt : List UInt8) : Prop := if full then dt = os ++ post else ∃ j, j < os.length ∧ dt = os.take j
theorem Dt.nil {full : Bool} {post os : List UInt8} (h : Dt full post os []) (ho : 0 < os.length) : full = false := by
  cases full with
  | false => rfl
  | true =>
    have : ([] : List UInt8) = os ++ post := h
    have := congrArg List.length this
    simp at this
    omega
theorem Dt.cons {full : Bool} {post os dt : List UInt8} {b : UInt8} (h : Dt full post os (b :: dt)) (ho : 0 < os.length) : ∃ os', os = b :: os' ∧ Dt full post os' dt ∧ (os' = [] → full = true) := by
  cases os with
  | nil => simp at ho
  | cons a os' =>
    cases full with
    | true =>
      have e : b :: dt = (a :: os') ++ post := h
      rw [List.cons_append] at e
      cases e
      exact ⟨os', rfl, rfl, fun _ => rfl⟩
    | false =>
      obtain ⟨j, hj, e⟩ : ∃ j, j < (a :: os').length ∧ b :: dt = (a :: os').take j := h
      cases j with
      | zero => cases e
      | succ j =>
        rw [List.take_succ_cons] at e
        cases e
        have hj' : j < os'.length := by simpa using hj
        exact ⟨os', rfl, ⟨j, hj', rfl⟩, fun e => by rw [e] at hj'; simp at hj'⟩
theorem St.rs {h₀ h : Heap} {L : Addr} {ns : List Str} {vs : List (Option Value)} {a b : List (Addr × Obj)} (S : St h₀ L h ns vs a) (h1 : ∀ q ∈ b, q ∈ a := by grind) (h2 : (a.map (·.1)).Nodup → (b.map (·.1)).Nodup := by grind) : St h₀ L h ns vs b := S.perm h1 (h2 S.nd)
theorem St.five {h₀ h : Heap} {L : Addr} {ns : List Str} {vs : List (Option Value)} {a b c d e : Addr × Obj} (S : St h₀ L h ns vs [a, b, c, d, e]) : St h₀ L h ns vs [a, d, e, b] := St.rs S
theorem RX.sub {base g : Heap} {l : List Env} {e : Addr} {K K' : List (Addr × Obj)} {h : Heap} (R : RX base g l e K h) (hs : ∀ q ∈ K', q ∈ K) : RX base g l e K' h := by
  obtain ⟨⟨cls, hc, B, a0, hB, hl, hfl⟩, hsm⟩ := R
  exact ⟨⟨cls, hc, B, a0, hB, fun q hq => hl q (hs q hq), hfl⟩, hsm⟩
theorem VOct.pos {os : List UInt8} {r : Nat} (h : VOct os r) : 0 < os.length := by cases h <;> simp

section
variable {prog : Program} {w : World} {loose : List Str} {mean : ExcName → Option Value} {mg mb : Str → Option Value} {A A₀ : Around} {env cenv : Env} {outer : List Env} {base h₀ h : Heap} {L : Addr} {lv : Nat} {ns gl : List Str} {vs vs' : List (Option Value)} {news nw foot rest dl tl Kp : List (Addr × Obj)} {x y : Str} {v u : Value} {p1 p2 p3 p4 : Pos} {kk : Nat}
variable {gs : Array GenState} {dr : Drawn} {tk : Nat} {os : OsState} {Q E : Value → Shared → Prop} {e e1 e2 i o eb ep : Expr} {pos : Pos}

/-- _VarintDecoder(M)(buffer, pos) -/
theorem vdU {M raw : Nat} {full : Bool} {pre post oc dt : List UInt8} (C : Cx w loose mean mg mb A env outer A₀ base h₀ L (lv + 2)) (G : Gl env gl) (hg : Str.ofString "_VarintDecoder" ∈ gl) (S : St h₀ L h ns vs (tl ++ rest)) (V : VT1 tl) (kx : Kx base h₀ outer Kp)
    (qb : ∀ h nw, St h₀ L h ns vs nw → Ev prog w A env h eb (.bytes (pre ++ dt).toArray 0)) (qp : ∀ h nw, St h₀ L h ns vs nw → Ev prog w A env h ep (.int pre.length 0)) (ho : VOct oc raw) (hl : oc.length ≤ 10) (hd : Dt full post oc dt) (hz : (pre ++ dt).length ≤ 16777216)
    (hM : ∀ m : Nat, Builtin.bitAnd (m : Int) (M : Int) = ((m % (M + 1) : Nat) : Int))
    (k : full = true → ∀ T t1 t2 h' tk' tl', VT1 tl' → St h₀ L h' ns vs ((T, tupO [.int (raw % (M + 1) : Nat) t1, .int (pre.length + oc.length : Nat) t2]) :: tl' ++ rest) → Q (.ref T) ⟨h', gs, dr, tk', os⟩)
    (kE : full = false → ∀ e g₂ m h' tk' tl', FrE h₀ L g₂ m (tl' ++ rest) → VT1 tl' → RX base g₂ (env :: outer) e (tl' ++ (rest ++ Kp)) h' → E (.ref e) ⟨h', gs, dr, tk', os⟩)
    (hbE : ∀ (env : Env), starEach [eb, ep] env = (false, eval eb env) :: starEach [ep] env := by intro _; rfl) (hpE : ∀ (env : Env), starEach [ep] env = (false, eval ep env) :: starEach [] env := by intro _; rfl)
    (hc : eval (.Call (.Call (.Name (Str.ofString "_VarintDecoder") p1) [.Constant (.int M) kk p2] [] p3) [eb, ep] [] p4) env = (do callWith p4 (← eval (.Call (.Name (Str.ofString "_VarintDecoder") p1) [.Constant (.int M) kk p2] [] p3) env) [] (backTo p4 (starEach [eb, ep] env)) (backToKw p4 (keywordEach [] env))) := by rfl) :
    WP prog w A (eval (.Call (.Call (.Name (Str.ofString "_VarintDecoder") p1) [.Constant (.int M) kk p2] [] p3) [eb, ep] [] p4) env) Q E ⟨h, gs, dr, tk, os⟩ := by
  obtain ⟨ps, bd, sc, mk, go⟩ : ∃ ps bd sc,
      (∀ (h : Heap) (tk : Nat) (t3 : Tok) (Q : Value → Shared → Prop), St h₀ L h ns vs (tl ++ rest) →
        (∀ f c2 oc2 P2 doc pm ctv cm h' tk', CodeO oc2 c2 P2 (Str.ofString "_VarintDecoder.<locals>.DecodeVarint") → St h₀ L h' ns vs ([(f, fnO (Str.ofString "DecodeVarint") (Str.ofString "_VarintDecoder.<locals>.DecodeVarint") ps bd sc [(Str.ofString "mask", cm)] .none doc pm c2 ctv), (cm, cellO (some (.int M t3))), (123, tabObj #[rawInt 56, rawInt 4, .ref c2]), (c2, oc2)] ++ rest) → Q (.ref f) ⟨h', gs, dr, tk', os⟩) →
        WP prog w A (PySem.call (.ref 128) [.int M t3]) Q E ⟨h, gs, dr, tk, os⟩) ∧
      (∀ (h : Heap) (tk f c2 : Nat) (oc2 : Obj) (P2 : Addr) (doc pm ctv : Value) (cm : Addr) (t3 tb tp : Tok) (rest2 : List (Addr × Obj)) (Q E : Value → Shared → Prop), St h₀ L h ns vs rest2 → (f, fnO (Str.ofString "DecodeVarint") (Str.ofString "_VarintDecoder.<locals>.DecodeVarint") ps bd sc [(Str.ofString "mask", cm)] .none doc pm c2 ctv) ∈ rest2 → (cm, cellO (some (.int M t3))) ∈ rest2 → (c2, oc2) ∈ rest2 → CodeO oc2 c2 P2 (Str.ofString "_VarintDecoder.<locals>.DecodeVarint") →
        (full = true → ∀ T t1 t2 h' tk', St h₀ L h' ns vs ((T, tupO [.int (raw % (M + 1) : Nat) t1, .int (pre.length + oc.length : Nat) t2]) :: rest2) → Q (.ref T) ⟨h', gs, dr, tk', os⟩) →
        (full = false → ∀ e g₂ m h' tk', FrE h₀ L g₂ m rest2 → RX base g₂ (env :: outer) e (rest2 ++ Kp) h' → E (.ref e) ⟨h', gs, dr, tk', os⟩) →
        WP prog w A (PySem.call (.ref f) [.bytes (pre ++ dt).toArray tb, .int pre.length tp]) Q E ⟨h, gs, dr, tk, os⟩) := by
    apply Exists.intro
    apply Exists.intro
    apply Exists.intro
    refine ⟨?_, ?_⟩
    · intro h tk t3 Q S k
      refine call_g (cl := []) (foot := tl) (rest := rest) (args := ⟨[.int M t3], []⟩) (binds := [(Str.ofString "mask", .int M t3)]) (Rel := fun v nw => ∀ h2 tk2, St h₀ L h2 ns vs (nw ++ rest) → Q v ⟨h2, gs, dr, tk2, os⟩) (ns' := [Str.ofString "DecodeVarint"]) (gl' := []) C S (K_get C S (by k_is)) rfl (K_code C S (by k_is)) (BindsTo.of_eq rfl) (fnEnv_ofG rfl (by decide +kernel) (by decide +kernel) (by decide +kernel) (by decide +kernel)) (vs2 := fun _ => [none]) (nw2 := fun L' => [(L' + 1, cellO (some (.int M t3)))] ++ (tl)) (fun L' => (.cel (by kernel_rfl) (by kernel_rfl) .hd .nil)) ?_ ?_
      · intro g L' h₁ tk₁ env' A' he hA C' N' S' kp Q' E' ret
        have hcode : env'.code = .ref 127 := by rw [he]
        have hcd : CodeHd h₁ 127 123 := S'.elim fun m F _ => (codeHd_of_K C'.X (by kernel_rfl)).keeps F.keep
        have hq : qualnameIn env' (Str.ofString "DecodeVarint") (Str.ofString "DecodeVarint") = Str.ofString "_VarintDecoder.<locals>.DecodeVarint" := by rw [he]; kernel_rfl
        clear hA kp
        refine x_def rfl rfl rfl ?_
        rw [hq]
        have V' := V
        rcases V' with hV | ⟨c2, oc2, P2, hV, hco⟩
        · rw [hV] at S'
          refine w_mk0 (w_tail (clos := [(Str.ofString "mask", L' + 1)]) N' C' S' hcode hcd (fun c' => .tl .hd) (closure_of (by rw [he]; kernel_rfl)) trivial rfl fun f c' P' oc2 ctv doc pm h2 tk2 hco S2 => ?_)
          refine st_loc N' S2 .hd fun h3 tk3 S3 => ?_
          refine x_ret (Ev.loc N' S3 .hd) fun v4 h4 tk4 n4 s4 => ?_
          obtain rfl := nt_ref n4
          exact ret _ _ _ _ _ _ (St.five (S3.grow s4)) fun h5 tk5 S5 => k f c' oc2 P' doc pm ctv (L' + 1) h5 tk5 hco S5
        · rw [hV] at S'
          refine w_tailHit (clos := [(Str.ofString "mask", L' + 1)]) N' C' S' hcode hcd (.tail _ (.head _)) (closure_of (by rw [he]; kernel_rfl)) (by simp [TriplesOk, rawInt]) rfl fun f ctv doc pm h2 tk2 S2 => ?_
          refine st_loc N' S2 .hd fun h3 tk3 S3 => ?_
          refine x_ret (Ev.loc N' S3 .hd) fun v4 h4 tk4 n4 s4 => ?_
          obtain rfl := nt_ref n4
          exact ret _ _ _ _ _ _ (S3.grow s4) fun h5 tk5 S5 => k f c2 oc2 P2 doc pm ctv (L' + 1) h5 tk5 hco S5
      · intro v h4 tk4 news4 hr S4
        exact hr h4 tk4 S4
    · intro h tk f c2 oc2 P2 doc pm ctv cm t3 tb tp rest2 Q E S hf hcm hc2 hco k kE
      refine call_gx (RelE := fun nw => nw = [] ∧ full = false) (cl := [(Str.ofString "mask", cm)]) (foot := []) (rest := rest2) (args := ⟨[.bytes ((pre ++ dt).toArray) tb, .int pre.length tp], []⟩) (binds := [(Str.ofString "buffer", .bytes ((pre ++ dt).toArray) tb), (Str.ofString "pos", .int pre.length tp)]) (Rel := fun v nw => full = true ∧ ∃ T t1 t2, v = .ref T ∧ nw = [(T, tupO [.int (raw % (M + 1) : Nat) t1, .int (pre.length + oc.length : Nat) t2])]) (ns' := [Str.ofString "buffer", Str.ofString "pos", Str.ofString "result", Str.ofString "shift", Str.ofString "b"]) (gl' := [Str.ofString "DecodeError"]) C S kx (S.get hf) rfl (hco _ (S.get hc2)).2 (BindsTo.of_eq rfl) (fnEnv_ofG rfl (by decide +kernel) (by decide +kernel) (by decide +kernel) (by decide +kernel)) (vs2 := fun _ => [some (.bytes ((pre ++ dt).toArray) 0), some (.int pre.length 0), none, none, none]) (nw2 := fun L' => []) (fun L' => (.loc .hd (.loc (.tl .hd) .nil))) ?_ ?_ ?_
      · intro g L' h₁ tk₁ env' A' he hA C' N' S' kp kx' Q' E' ret rai
        have ce : CE env' (Str.ofString "mask") cm := ⟨.inr (by rw [he]; kernel_rfl), by rw [he]; kernel_rfl, by decide +kernel, by decide +kernel⟩
        have gcm : g.get? cm = some (cellO (some (.int M t3))) := kp cm _ (by simp) (S.get hcm)
        clear hA kp
        refine x_assign N' S' Ev.int (.tl (.tl .hd)) fun h2 tk2 S2 => ?_
        refine x_assign N' S2 Ev.int (.tl (.tl (.tl .hd))) fun h3 tk3 S3 => ?_
        refine x_whileR rai.own (fun n h => ∃ os r pre2 dt2 res i u, VOct os r ∧ Dt full post os dt2 ∧ pre2 ++ dt2 = pre ++ dt ∧ n = os.length ∧ i + os.length ≤ 10 ∧ res < 2 ^ (7 * i) ∧ res + r * 2 ^ (7 * i) = raw ∧ pre2.length + os.length = pre.length + oc.length ∧
          St g L' h [Str.ofString "buffer", Str.ofString "pos", Str.ofString "result", Str.ofString "shift", Str.ofString "b"] [some (.bytes (pre ++ dt).toArray 0), some (.int pre2.length 0), some (.int (res : Nat) 0), some (.int (7 * i : Nat) 0), u] []) (n := oc.length) ⟨oc, raw, pre, dt, 0, 0, none, ho, hd, rfl, rfl, by omega, by simp, by simp, rfl, S3⟩ ?_
        rintro n h4 tk4 ⟨os, r, pre2, dt2, res, i, u, hv, hdt, hbuf, rfl, hi, hres, hraw, htot, S4⟩
        refine ⟨_, Ts.int Ev.int, fun _ h5 tk5 s5 => ?_, fun hc => absurd hc (by decide)⟩
        have S5 := S4.grow s5
        cases dt2 with
        | nil =>
          refine x_asg (w_itemOut C'.hand (Ev.loc N' S5 .hd) (Ev.loc N' S5 (.tl .hd)) (by rw [← hbuf, List.append_nil]; exact Int.le_refl _) (by have := congrArg List.length hbuf; simp at this hz; omega) (fun h6 h7 tk7 e7 s6 hx => ?_) (fun _ _ => by with_unfolding_all rfl))
          exact rai.new e7 _ h6 h7 tk7 _ _ [] (S5.grow s6) ⟨rfl, hdt.nil hv.pos⟩ (.inl rfl) (.ofNew hx)
        | cons b dt3 =>
          obtain ⟨os', rfl, hdt', hlast⟩ := hdt.cons hv.pos
          refine x_assign N' S5 (Ev.itemB (b := b) (Ev.loc N' S5 .hd) (Ev.loc N' S5 (.tl .hd)) rfl (by rw [← hbuf]; simp) hz (fun _ _ => by with_unfolding_all rfl)) (.tl (.tl (.tl (.tl .hd)))) fun h6 tk6 S6 => ?_
          refine x_aug (z := (pre2 ++ [b]).length) N' S6 (.tl .hd) Ev.int (.tl .hd) (fun t u s Q E q => iadd_int (by simpa using q)) fun h7 tk7 S7 => ?_
          have hor : Builtin.bitOr ((res : Nat) : Int) (Builtin.bitAnd (b.toNat : Int) 127 * 2 ^ (((7 * i : Nat) : Int)).toNat) = ((res + (b.toNat % 128) * 2 ^ (7 * i) : Nat) : Int) := by
            rw [bitAnd_m7, Int.toNat_natCast]
            exact or_add (m := b.toNat % 128) hres
          refine x_aug (z := (res + (b.toNat % 128) * 2 ^ (7 * i) : Nat)) N' S7 (.tl (.tl .hd)) (Ev.shl (Ev.and (Ev.loc N' S7 (.tl (.tl (.tl (.tl .hd))))) Ev.int) (Ev.loc N' S7 (.tl (.tl (.tl .hd)))) (by omega) (by omega) (by rw [bitAnd_m7]; omega)) (.tl (.tl .hd)) (fun t u s Q E q => ior_int (by rw [hor]; exact q)) fun h8 tk8 S8 => ?_
          have hb := b.toNat_lt
          refine x_if (Ts.cast (d := !decide (128 ≤ b.toNat)) (Ts.not (Ts.int (Ev.and (Ev.loc N' S8 (.tl (.tl (.tl (.tl .hd))))) Ev.int))) (by rw [and128 hb])) (fun hc h9 tk9 s9 => ?_) fun hc h9 tk9 s9 => ?_
          · have S9 := S8.grow s9
            have hb128 : b.toNat < 128 := by simpa using hc
            have h1 : os' = [] ∧ r = b.toNat := by
              cases hv with
              | last h => exact ⟨rfl, rfl⟩
              | more h _ => omega
            obtain ⟨rfl, rfl⟩ := h1
            have e1 : res + (b.toNat % 128) * 2 ^ (7 * i) = raw := by rw [Nat.mod_eq_of_lt hb128]; exact hraw
            rw [e1] at S9
            refine x_aug (z := (raw % (M + 1) : Nat)) N' S9 (.tl (.tl .hd)) (Ev.cellH N'.kind ce (S9.elim fun m F _ => F.keep _ _ gcm) rfl) (.tl (.tl .hd)) (fun t u s Q E q => iand_int (by rw [hM]; exact q)) fun h10 tk10 S10 => ?_
            refine x_retW (w_tuple S10 (.cons (Ev.loc N' S10 (.tl (.tl .hd))) (.cons (Ev.loc N' S10 (.tl .hd)) .nil)) (by simp) fun T ws h11 tk11 e11 S11 st11 => ?_)
            obtain ⟨x, y, rfl, hx, hy⟩ := map_nt2 e11
            obtain ⟨t1, rfl⟩ := nt_int hx
            obtain ⟨t2, rfl⟩ := nt_int hy
            refine ret _ _ _ _ _ _ S11 ⟨hlast rfl, T, t1, t2, rfl, ?_⟩
            have : (pre2 ++ [b]).length = pre.length + oc.length := by simpa using htot
            rw [this]
          · refine x_nil (Nx.go ?_)
            have S9 := S8.grow s9
            have hb128 : 128 ≤ b.toNat := by simpa using hc
            obtain ⟨r', hv', hr⟩ : ∃ r', VOct os' r' ∧ r = b.toNat % 128 + 128 * r' := by
              cases hv with
              | last h => omega
              | more _ h2 => exact ⟨_, h2, rfl⟩
            have hp := hv'.pos
            have hi' : i + (os'.length + 1) ≤ 10 := by simpa using hi
            refine x_aug (z := (7 * (i + 1) : Nat)) N' S9 (.tl (.tl (.tl .hd))) Ev.int (.tl (.tl (.tl .hd))) (fun t u s Q E q => iadd_int (by
              have : ((7 * i : Nat) : Int) + 7 = ((7 * (i + 1) : Nat) : Int) := by omega
              rw [this]; exact q)) fun h10 tk10 S10 => ?_
            refine x_if (Ts.ge (Ev.loc N' S10 (.tl (.tl (.tl .hd)))) Ev.int) (fun hc h11 tk11 s11 => ?_) fun hc h11 tk11 s11 => x_nil (Nx.go (x_nil ?_))
            · have := of_decide_eq_true hc
              omega
            · have S11 := S10.grow s11
              have ep : 2 ^ (7 * (i + 1)) = 2 ^ (7 * i) * 128 := by rw [Nat.mul_add, Nat.pow_add]
              refine LK.go (m := os'.length) (by simp) ⟨os', r', pre2 ++ [b], dt3, res + (b.toNat % 128) * 2 ^ (7 * i), i + 1, _, hv', hdt', by rw [List.append_assoc]; exact hbuf, rfl, by omega, ?_, ?_, by simpa [Nat.add_assoc, Nat.add_comm 1] using htot, S11⟩
              · rw [ep]
                have : b.toNat % 128 * 2 ^ (7 * i) ≤ 127 * 2 ^ (7 * i) := Nat.mul_le_mul_right _ (by omega)
                omega
              · rw [ep, ← hraw, hr, Nat.add_mul]
                have : r' * (2 ^ (7 * i) * 128) = 128 * r' * 2 ^ (7 * i) := by rw [Nat.mul_comm (2 ^ (7 * i)) 128, ← Nat.mul_assoc, Nat.mul_comm r' 128]
                rw [this, Nat.add_assoc]
      · rintro v h2 tk2 nw ⟨hf, T, t1, t2, rfl, rfl⟩ S2
        exact k hf T t1 t2 h2 tk2 S2
      · rintro e g₂ m h2 tk2 nw F2 ⟨rfl, hf⟩ R
        exact kE hf e g₂ m h2 tk2 F2 R
  refine c_fnW (c_fn (a := 128) (Ev.globC G C S (by k_is) hg rfl) fun h2 tk2 s2 => ?_) (by rw [hbE, hpE]; rfl) (hbE _) hc
  have S2 := S.grow s2
  refine sp_p Ev.int fun v3 h3 tk3 n3 s3 => ?_
  obtain ⟨t3, rfl⟩ := nt_int n3
  have S3 := S2.grow s3
  refine sp_n ⟨fnAt_K C S3 (by k_is), (mk h3 tk3 t3 _ S3 ?_).out⟩
  intro f c2 oc2 P2 doc pm ctv cm h4 tk4 hco S4
  refine ⟨f, rfl, ⟨_, _, _, _, S4.get (.head _)⟩, ?_⟩
  refine sp_p (qb _ _ S4) (fun v5 h5 tk5 n5 s5 => ?_) (hbE _)
  obtain ⟨t5, rfl⟩ := nt_bytes n5
  have S5 := S4.grow s5
  refine sp_p (qp _ _ S5) (fun v6 h6 tk6 n6 s6 => ?_) (hpE _)
  obtain ⟨t6, rfl⟩ := nt_int n6
  have S6 := S5.grow s6
  refine sp_n ⟨⟨_, _, _, _, S6.get (.head _)⟩, (go h6 tk6 f c2 oc2 P2 doc pm ctv cm t3 t5 t6 _ _ _ S6 (.head _) (.tail _ (.head _)) (.tail _ (.tail _ (.tail _ (.head _)))) hco ?_ ?_).out⟩
  · intro hf T t1 t2 h7 tk7 S7
    exact k hf T t1 t2 h7 tk7 [(123, tabObj #[rawInt 56, rawInt 4, .ref c2]), (c2, oc2)] (.inr ⟨c2, oc2, P2, rfl, hco⟩) (St.rs S7)
  · intro hf e g₂ m h7 tk7 F7 R7
    exact kE hf e g₂ m h7 tk7 [(123, tabObj #[rawInt 56, rawInt 4, .ref c2]), (c2, oc2)] F7.drop.drop (.inr ⟨c2, oc2, P2, rfl, hco⟩) (R7.sub (by grind))
end
end Mine
end
section
open PySem PySem.Spec PySem.Calls PySem.W PyProof.Rows
open LCg (NsObj ns_obj fr_but)
set_option maxRecDepth 100000
set_option maxHeartbeats 4000000
set_option linter.unusedVariables false
namespace Mine


theorem and_pow (m k : Nat) (h : m < 2 ^ (k + 1)) : m &&& 2 ^ k = if 2 ^ k ≤ m then 2 ^ k else 0 := by
  have hp : 0 < 2 ^ k := Nat.pow_pos (by decide)
  rw [Nat.pow_succ] at h
  apply Nat.eq_of_testBit_eq
  intro i
  rw [Nat.testBit_and, Nat.testBit_two_pow]
  by_cases hi : k = i
  · subst hi
    rw [Nat.testBit_eq_decide_div_mod_eq]
    by_cases hm : 2 ^ k ≤ m
    · have e : m / 2 ^ k = 1 := by apply Nat.div_eq_of_lt_le <;> omega
      rw [e, if_pos hm, Nat.testBit_two_pow]; simp
    · have e : m / 2 ^ k = 0 := Nat.div_eq_of_lt (by omega)
      rw [e, if_neg hm]; simp
  · split
    · rw [Nat.testBit_two_pow]; simp [hi]
    · simp [hi]
theorem bitAnd_mask (raw b : Nat) : Builtin.bitAnd (raw : Int) ((2 ^ b - 1 : Nat) : Int) = ((raw % 2 ^ b : Nat) : Int) := by
  unfold Builtin.bitAnd
  simp only [Int.natCast_nonneg, decide_true, Int.toNat_natCast]
  rw [Nat.and_two_pow_sub_one_eq_mod]
theorem sgn_xor {b raw : Nat} (hb : 0 < b) : Builtin.bitXor ((raw % 2 ^ b : Nat) : Int) ((2 ^ (b - 1) : Nat) : Int) - ((2 ^ (b - 1) : Nat) : Int) = sgn b raw := by
  obtain ⟨c, rfl⟩ : ∃ c, b = c + 1 := ⟨b - 1, by omega⟩
  rw [Nat.add_sub_cancel, bitXor_and]
  have hlt : raw % 2 ^ (c + 1) < 2 ^ (c + 1) := Nat.mod_lt _ (Nat.pow_pos (by decide))
  have e : Builtin.bitAnd ((raw % 2 ^ (c + 1) : Nat) : Int) ((2 ^ c : Nat) : Int) = ((if 2 ^ c ≤ raw % 2 ^ (c + 1) then 2 ^ c else 0 : Nat) : Int) := by
    unfold Builtin.bitAnd
    simp only [Int.natCast_nonneg, decide_true, Int.toNat_natCast]
    rw [and_pow _ _ hlt]
  rw [e]
  unfold sgn
  rw [Nat.add_sub_cancel]
  have ep : (2 : Int) ^ (c + 1) = 2 * ((2 ^ c : Nat) : Int) := by rw [Int.pow_succ]; push_cast; rw [Int.mul_comm]
  generalize raw % 2 ^ (c + 1) = m at *
  rw [ep]
  generalize 2 ^ c = H at *
  split <;> omega

theorem St.six {h₀ h : Heap} {L : Addr} {ns : List Str} {vs : List (Option Value)} {a b c d e f : Addr × Obj} (S : St h₀ L h ns vs [a, b, c, d, e, f]) : St h₀ L h ns vs [a, d, e, f, b] := St.rs S

section
variable {prog : Program} {w : World} {loose : List Str} {mean : ExcName → Option Value} {mg mb : Str → Option Value} {A A₀ : Around} {env cenv : Env} {outer : List Env} {base h₀ h : Heap} {L : Addr} {lv : Nat} {ns gl : List Str} {vs vs' : List (Option Value)} {news nw foot rest dl tl Kp : List (Addr × Obj)} {x y : Str} {v u : Value} {p1 p2 p3 p4 : Pos} {kk : Nat}
variable {gs : Array GenState} {dr : Drawn} {tk : Nat} {os : OsState} {Q E : Value → Shared → Prop} {e e1 e2 i o eb ep : Expr} {pos : Pos}

/-- _SignedVarintDecoder(M)(buffer, pos) -/
theorem vdS {bt raw : Nat} {full : Bool} {pre post oc dt : List UInt8} (C : Cx w loose mean mg mb A env outer A₀ base h₀ L (lv + 2)) (G : Gl env gl) (hg : Str.ofString "_SignedVarintDecoder" ∈ gl) (S : St h₀ L h ns vs (tl ++ rest)) (V : VT2 tl) (kx : Kx base h₀ outer Kp)
    (qb : ∀ h nw, St h₀ L h ns vs nw → Ev prog w A env h eb (.bytes (pre ++ dt).toArray 0)) (qp : ∀ h nw, St h₀ L h ns vs nw → Ev prog w A env h ep (.int pre.length 0)) (ho : VOct oc raw) (hl : oc.length ≤ 10) (hd : Dt full post oc dt) (hz : (pre ++ dt).length ≤ 16777216)
    (hbt : bt = 32 ∨ bt = 64)
    (k : full = true → ∀ T t1 t2 h' tk' tl', VT2 tl' → St h₀ L h' ns vs ((T, tupO [.int (sgn bt raw) t1, .int (pre.length + oc.length : Nat) t2]) :: tl' ++ rest) → Q (.ref T) ⟨h', gs, dr, tk', os⟩)
    (kE : full = false → ∀ e g₂ m h' tk' tl', FrE h₀ L g₂ m (tl' ++ rest) → VT2 tl' → RX base g₂ (env :: outer) e (tl' ++ (rest ++ Kp)) h' → E (.ref e) ⟨h', gs, dr, tk', os⟩)
    (hbE : ∀ (env : Env), starEach [eb, ep] env = (false, eval eb env) :: starEach [ep] env := by intro _; rfl) (hpE : ∀ (env : Env), starEach [ep] env = (false, eval ep env) :: starEach [] env := by intro _; rfl)
    (hc : eval (.Call (.Call (.Name (Str.ofString "_SignedVarintDecoder") p1) [.Constant (.int bt) kk p2] [] p3) [eb, ep] [] p4) env = (do callWith p4 (← eval (.Call (.Name (Str.ofString "_SignedVarintDecoder") p1) [.Constant (.int bt) kk p2] [] p3) env) [] (backTo p4 (starEach [eb, ep] env)) (backToKw p4 (keywordEach [] env))) := by rfl) :
    WP prog w A (eval (.Call (.Call (.Name (Str.ofString "_SignedVarintDecoder") p1) [.Constant (.int bt) kk p2] [] p3) [eb, ep] [] p4) env) Q E ⟨h, gs, dr, tk, os⟩ := by
  obtain ⟨ps, bd, sc, mk, go⟩ : ∃ ps bd sc,
      (∀ (h : Heap) (tk : Nat) (t3 : Tok) (Q : Value → Shared → Prop), St h₀ L h ns vs (tl ++ rest) →
        (∀ f c2 oc2 P2 doc pm ctv cm cs t3 t4 h' tk', CodeO oc2 c2 P2 (Str.ofString "_SignedVarintDecoder.<locals>.DecodeVarint") → St h₀ L h' ns vs ([(f, fnO (Str.ofString "DecodeVarint") (Str.ofString "_SignedVarintDecoder.<locals>.DecodeVarint") ps bd sc [(Str.ofString "signbit", cs), (Str.ofString "mask", cm)] .none doc pm c2 ctv), (cm, cellO (some (.int ((2 ^ bt - 1 : Nat) : Int) t3))), (cs, cellO (some (.int ((2 ^ (bt - 1) : Nat) : Int) t4))), (130, tabObj #[rawInt 74, rawInt 4, .ref c2]), (c2, oc2)] ++ rest) → Q (.ref f) ⟨h', gs, dr, tk', os⟩) →
        WP prog w A (PySem.call (.ref 135) [.int bt t3]) Q E ⟨h, gs, dr, tk, os⟩) ∧
      (∀ (h : Heap) (tk f c2 : Nat) (oc2 : Obj) (P2 : Addr) (doc pm ctv : Value) (cm cs : Addr) (t3 t4 tb tp : Tok) (rest2 : List (Addr × Obj)) (Q E : Value → Shared → Prop), St h₀ L h ns vs rest2 → (f, fnO (Str.ofString "DecodeVarint") (Str.ofString "_SignedVarintDecoder.<locals>.DecodeVarint") ps bd sc [(Str.ofString "signbit", cs), (Str.ofString "mask", cm)] .none doc pm c2 ctv) ∈ rest2 → (cm, cellO (some (.int ((2 ^ bt - 1 : Nat) : Int) t3))) ∈ rest2 → (cs, cellO (some (.int ((2 ^ (bt - 1) : Nat) : Int) t4))) ∈ rest2 → (c2, oc2) ∈ rest2 → CodeO oc2 c2 P2 (Str.ofString "_SignedVarintDecoder.<locals>.DecodeVarint") →
        (full = true → ∀ T t1 t2 h' tk', St h₀ L h' ns vs ((T, tupO [.int (sgn bt raw) t1, .int (pre.length + oc.length : Nat) t2]) :: rest2) → Q (.ref T) ⟨h', gs, dr, tk', os⟩) →
        (full = false → ∀ e g₂ m h' tk', FrE h₀ L g₂ m rest2 → RX base g₂ (env :: outer) e (rest2 ++ Kp) h' → E (.ref e) ⟨h', gs, dr, tk', os⟩) →
        WP prog w A (PySem.call (.ref f) [.bytes (pre ++ dt).toArray tb, .int pre.length tp]) Q E ⟨h, gs, dr, tk, os⟩) := by
    apply Exists.intro
    apply Exists.intro
    apply Exists.intro
    refine ⟨?_, ?_⟩
    · intro h tk t3 Q S k
      refine call_g (cl := []) (foot := tl) (rest := rest) (args := ⟨[.int bt t3], []⟩) (binds := [(Str.ofString "bits", .int bt t3)]) (Rel := fun v nw => ∀ h2 tk2, St h₀ L h2 ns vs (nw ++ rest) → Q v ⟨h2, gs, dr, tk2, os⟩) (ns' := [Str.ofString "bits", Str.ofString "DecodeVarint"]) (gl' := []) C S (K_get C S (by k_is)) rfl (K_code C S (by k_is)) (BindsTo.of_eq rfl) (fnEnv_ofG rfl (by decide +kernel) (by decide +kernel) (by decide +kernel) (by decide +kernel)) (vs2 := fun _ => [some (.int bt 0), none]) (nw2 := fun L' => [(L' + 1, cellO none), (L' + 1 + 1, cellO none)] ++ (tl)) (fun L' => (.loc .hd .nil)) ?_ ?_
      · intro g L' h₁ tk₁ env' A' he hA C' N' S' kp Q' E' ret
        have hcode : env'.code = .ref 134 := by rw [he]
        have ceS : env'.kindOf (Str.ofString "signbit") = some .cell ∧ env'.cells.lookup (Str.ofString "signbit") = some (L' + 1 + 1) := ⟨by rw [he]; kernel_rfl, by rw [he]; kernel_rfl⟩
        have ceM : env'.kindOf (Str.ofString "mask") = some .cell ∧ env'.cells.lookup (Str.ofString "mask") = some (L' + 1) := ⟨by rw [he]; kernel_rfl, by rw [he]; kernel_rfl⟩
        have hcdG : CodeHd g 134 130 := codeHd_of_K C'.X (by kernel_rfl)
        have hq : qualnameIn env' (Str.ofString "DecodeVarint") (Str.ofString "DecodeVarint") = Str.ofString "_SignedVarintDecoder.<locals>.DecodeVarint" := by rw [he]; kernel_rfl
        clear hA kp
        have e1 : (((bt : Nat) : Int) - 1).toNat = bt - 1 := by omega
        have e2 : ((bt : Nat) : Int).toNat = bt := by omega
        have e3 : (1 : Int) * 2 ^ (((bt : Nat) : Int) - 1).toNat = ((2 ^ (bt - 1) : Nat) : Int) := by rw [e1, Int.one_mul]; push_cast; rfl
        have e4 : (1 : Int) * 2 ^ ((bt : Nat) : Int).toNat - 1 = ((2 ^ bt - 1 : Nat) : Int) := by
          rw [e2, Int.one_mul]
          have : 0 < 2 ^ bt := Nat.pow_pos (by decide)
          have ep : (2 : Int) ^ bt = ((2 ^ bt : Nat) : Int) := by push_cast; rfl
          rw [ep]; omega
        refine x_asg (Ev.use' (Ev.cast (Ev.shl Ev.int (Ev.sub (Ev.loc N' S' .hd) Ev.int) (by omega) (by omega) (by decide)) (by rw [e3])) fun v6 h6 tk6 n6 s6 => ?_)
        obtain ⟨t6, rfl⟩ := nt_int n6
        refine st_cell N'.kind ceS.1 ceS.2 (S'.grow s6) (.tl .hd) fun h7 S7 => ?_
        refine x_asg (Ev.use' (Ev.cast (Ev.sub (Ev.shl Ev.int (Ev.loc N' S7 .hd) (by omega) (by omega) (by decide)) Ev.int) (by rw [e4])) fun v8 h8 tk8 n8 s8 => ?_)
        obtain ⟨t8, rfl⟩ := nt_int n8
        refine st_cell N'.kind ceM.1 ceM.2 (S7.grow s8) .hd fun h9 S9 => ?_
        have hcd : CodeHd h9 134 130 := S9.elim fun m F _ => hcdG.keeps F.keep
        clear S' S7
        have S' := S9
        refine x_def rfl rfl rfl ?_
        rw [hq]
        have V' := V
        rcases V' with hV | ⟨c2, oc2, P2, hV, hco⟩
        · rw [hV] at S'
          refine w_mk0 (w_tail (clos := [(Str.ofString "signbit", L' + 1 + 1), (Str.ofString "mask", L' + 1)]) N' C' S' hcode hcd (fun c' => .tl (.tl .hd)) (closure_of (by rw [he]; kernel_rfl)) trivial rfl fun f c' P' oc2 ctv doc pm h2 tk2 hco S2 => ?_)
          refine st_loc N' S2 (.tl .hd) fun h3 tk3 S3 => ?_
          refine x_ret (Ev.loc N' S3 (.tl .hd)) fun v4 h4 tk4 n4 s4 => ?_
          obtain rfl := nt_ref n4
          exact ret _ _ _ _ _ _ (St.six (S3.grow s4)) fun h5 tk5 S5 => k f c' oc2 P' doc pm ctv (L' + 1) (L' + 1 + 1) t8 t6 h5 tk5 hco S5
        · rw [hV] at S'
          refine w_tailHit (clos := [(Str.ofString "signbit", L' + 1 + 1), (Str.ofString "mask", L' + 1)]) N' C' S' hcode hcd (.tail _ (.tail _ (.head _))) (closure_of (by rw [he]; kernel_rfl)) (by simp [TriplesOk, rawInt]) rfl fun f ctv doc pm h2 tk2 S2 => ?_
          refine st_loc N' S2 (.tl .hd) fun h3 tk3 S3 => ?_
          refine x_ret (Ev.loc N' S3 (.tl .hd)) fun v4 h4 tk4 n4 s4 => ?_
          obtain rfl := nt_ref n4
          exact ret _ _ _ _ _ _ (S3.grow s4) fun h5 tk5 S5 => k f c2 oc2 P2 doc pm ctv (L' + 1) (L' + 1 + 1) t8 t6 h5 tk5 hco S5
      · intro v h4 tk4 news4 hr S4
        exact hr h4 tk4 S4
    · intro h tk f c2 oc2 P2 doc pm ctv cm cs t3 t4 tb tp rest2 Q E S hf hcm hcs hc2 hco k kE
      refine call_gx (RelE := fun nw => nw = [] ∧ full = false) (cl := [(Str.ofString "signbit", cs), (Str.ofString "mask", cm)]) (foot := []) (rest := rest2) (args := ⟨[.bytes ((pre ++ dt).toArray) tb, .int pre.length tp], []⟩) (binds := [(Str.ofString "buffer", .bytes ((pre ++ dt).toArray) tb), (Str.ofString "pos", .int pre.length tp)]) (Rel := fun v nw => full = true ∧ ∃ T t1 t2, v = .ref T ∧ nw = [(T, tupO [.int (sgn bt raw) t1, .int (pre.length + oc.length : Nat) t2])]) (ns' := [Str.ofString "buffer", Str.ofString "pos", Str.ofString "result", Str.ofString "shift", Str.ofString "b"]) (gl' := [Str.ofString "DecodeError"]) C S kx (S.get hf) rfl (hco _ (S.get hc2)).2 (BindsTo.of_eq rfl) (fnEnv_ofG rfl (by decide +kernel) (by decide +kernel) (by decide +kernel) (by decide +kernel)) (vs2 := fun _ => [some (.bytes ((pre ++ dt).toArray) 0), some (.int pre.length 0), none, none, none]) (nw2 := fun L' => []) (fun L' => (.loc .hd (.loc (.tl .hd) .nil))) ?_ ?_ ?_
      · intro g L' h₁ tk₁ env' A' he hA C' N' S' kp kx' Q' E' ret rai
        have ce : CE env' (Str.ofString "mask") cm := ⟨.inr (by rw [he]; kernel_rfl), by rw [he]; kernel_rfl, by decide +kernel, by decide +kernel⟩
        have gcm : g.get? cm = some (cellO (some (.int ((2 ^ bt - 1 : Nat) : Int) t3))) := kp cm _ (by simp) (S.get hcm)
        have ceS : CE env' (Str.ofString "signbit") cs := ⟨.inr (by rw [he]; kernel_rfl), by rw [he]; kernel_rfl, by decide +kernel, by decide +kernel⟩
        have gcs : g.get? cs = some (cellO (some (.int ((2 ^ (bt - 1) : Nat) : Int) t4))) := kp cs _ (by simp) (S.get hcs)
        clear hA kp
        refine x_assign N' S' Ev.int (.tl (.tl .hd)) fun h2 tk2 S2 => ?_
        refine x_assign N' S2 Ev.int (.tl (.tl (.tl .hd))) fun h3 tk3 S3 => ?_
        refine x_whileR rai.own (fun n h => ∃ os r pre2 dt2 res i u, VOct os r ∧ Dt full post os dt2 ∧ pre2 ++ dt2 = pre ++ dt ∧ n = os.length ∧ i + os.length ≤ 10 ∧ res < 2 ^ (7 * i) ∧ res + r * 2 ^ (7 * i) = raw ∧ pre2.length + os.length = pre.length + oc.length ∧
          St g L' h [Str.ofString "buffer", Str.ofString "pos", Str.ofString "result", Str.ofString "shift", Str.ofString "b"] [some (.bytes (pre ++ dt).toArray 0), some (.int pre2.length 0), some (.int (res : Nat) 0), some (.int (7 * i : Nat) 0), u] []) (n := oc.length) ⟨oc, raw, pre, dt, 0, 0, none, ho, hd, rfl, rfl, by omega, by simp, by simp, rfl, S3⟩ ?_
        rintro n h4 tk4 ⟨os, r, pre2, dt2, res, i, u, hv, hdt, hbuf, rfl, hi, hres, hraw, htot, S4⟩
        refine ⟨_, Ts.int Ev.int, fun _ h5 tk5 s5 => ?_, fun hc => absurd hc (by decide)⟩
        have S5 := S4.grow s5
        cases dt2 with
        | nil =>
          refine x_asg (w_itemOut C'.hand (Ev.loc N' S5 .hd) (Ev.loc N' S5 (.tl .hd)) (by rw [← hbuf, List.append_nil]; exact Int.le_refl _) (by have := congrArg List.length hbuf; simp at this hz; omega) (fun h6 h7 tk7 e7 s6 hx => ?_) (fun _ _ => by with_unfolding_all rfl))
          exact rai.new e7 _ h6 h7 tk7 _ _ [] (S5.grow s6) ⟨rfl, hdt.nil hv.pos⟩ (.inl rfl) (.ofNew hx)
        | cons b dt3 =>
          obtain ⟨os', rfl, hdt', hlast⟩ := hdt.cons hv.pos
          refine x_assign N' S5 (Ev.itemB (b := b) (Ev.loc N' S5 .hd) (Ev.loc N' S5 (.tl .hd)) rfl (by rw [← hbuf]; simp) hz (fun _ _ => by with_unfolding_all rfl)) (.tl (.tl (.tl (.tl .hd)))) fun h6 tk6 S6 => ?_
          have hor : Builtin.bitOr ((res : Nat) : Int) (Builtin.bitAnd (b.toNat : Int) 127 * 2 ^ (((7 * i : Nat) : Int)).toNat) = ((res + (b.toNat % 128) * 2 ^ (7 * i) : Nat) : Int) := by
            rw [bitAnd_m7, Int.toNat_natCast]
            exact or_add (m := b.toNat % 128) hres
          refine x_aug (z := (res + (b.toNat % 128) * 2 ^ (7 * i) : Nat)) N' S6 (.tl (.tl .hd)) (Ev.shl (Ev.and (Ev.loc N' S6 (.tl (.tl (.tl (.tl .hd))))) Ev.int) (Ev.loc N' S6 (.tl (.tl (.tl .hd)))) (by omega) (by omega) (by rw [bitAnd_m7]; omega)) (.tl (.tl .hd)) (fun t u s Q E q => ior_int (by rw [hor]; exact q)) fun h7 tk7 S7 => ?_
          refine x_aug (z := (pre2 ++ [b]).length) N' S7 (.tl .hd) Ev.int (.tl .hd) (fun t u s Q E q => iadd_int (by simpa using q)) fun h8 tk8 S8 => ?_
          have hb := b.toNat_lt
          refine x_if (Ts.cast (d := !decide (128 ≤ b.toNat)) (Ts.not (Ts.int (Ev.and (Ev.loc N' S8 (.tl (.tl (.tl (.tl .hd))))) Ev.int))) (by rw [and128 hb])) (fun hc h9 tk9 s9 => ?_) fun hc h9 tk9 s9 => ?_
          · have S9 := S8.grow s9
            have hb128 : b.toNat < 128 := by simpa using hc
            have h1 : os' = [] ∧ r = b.toNat := by
              cases hv with
              | last h => exact ⟨rfl, rfl⟩
              | more h _ => omega
            obtain ⟨rfl, rfl⟩ := h1
            have e1 : res + (b.toNat % 128) * 2 ^ (7 * i) = raw := by rw [Nat.mod_eq_of_lt hb128]; exact hraw
            rw [e1] at S9
            have hM : Builtin.bitAnd (raw : Int) ((2 ^ bt - 1 : Nat) : Int) = ((raw % 2 ^ bt : Nat) : Int) := by
              exact bitAnd_mask raw bt
            refine x_aug (z := (raw % 2 ^ bt : Nat)) N' S9 (.tl (.tl .hd)) (Ev.cellH N'.kind ce (S9.elim fun m F _ => F.keep _ _ gcm) rfl) (.tl (.tl .hd)) (fun t u s Q E q => iand_int (by rw [hM]; exact q)) fun h12 tk12 S12 => ?_
            refine x_assign N' S12 (Ev.cast (Ev.sub (Ev.xor (Ev.loc N' S12 (.tl (.tl .hd))) (Ev.cellH N'.kind ceS (S12.elim fun m F _ => F.keep _ _ gcs) rfl)) (Ev.cellH N'.kind ceS (S12.elim fun m F _ => F.keep _ _ gcs) rfl)) (by rw [sgn_xor (by omega)])) (.tl (.tl .hd)) fun h10 tk10 S10 => ?_
            refine x_retW (w_tuple S10 (.cons (Ev.loc N' S10 (.tl (.tl .hd))) (.cons (Ev.loc N' S10 (.tl .hd)) .nil)) (by simp) fun T ws h11 tk11 e11 S11 st11 => ?_)
            obtain ⟨x, y, rfl, hx, hy⟩ := map_nt2 e11
            obtain ⟨t1, rfl⟩ := nt_int hx
            obtain ⟨t2, rfl⟩ := nt_int hy
            refine ret _ _ _ _ _ _ S11 ⟨hlast rfl, T, t1, t2, rfl, ?_⟩
            have : (pre2 ++ [b]).length = pre.length + oc.length := by simpa using htot
            rw [this]
          · refine x_nil (Nx.go ?_)
            have S9 := S8.grow s9
            have hb128 : 128 ≤ b.toNat := by simpa using hc
            obtain ⟨r', hv', hr⟩ : ∃ r', VOct os' r' ∧ r = b.toNat % 128 + 128 * r' := by
              cases hv with
              | last h => omega
              | more _ h2 => exact ⟨_, h2, rfl⟩
            have hp := hv'.pos
            have hi' : i + (os'.length + 1) ≤ 10 := by simpa using hi
            refine x_aug (z := (7 * (i + 1) : Nat)) N' S9 (.tl (.tl (.tl .hd))) Ev.int (.tl (.tl (.tl .hd))) (fun t u s Q E q => iadd_int (by
              have : ((7 * i : Nat) : Int) + 7 = ((7 * (i + 1) : Nat) : Int) := by omega
              rw [this]; exact q)) fun h10 tk10 S10 => ?_
            refine x_if (Ts.ge (Ev.loc N' S10 (.tl (.tl (.tl .hd)))) Ev.int) (fun hc h11 tk11 s11 => ?_) fun hc h11 tk11 s11 => x_nil (Nx.go (x_nil ?_))
            · have := of_decide_eq_true hc
              omega
            · have S11 := S10.grow s11
              have ep : 2 ^ (7 * (i + 1)) = 2 ^ (7 * i) * 128 := by rw [Nat.mul_add, Nat.pow_add]
              refine LK.go (m := os'.length) (by simp) ⟨os', r', pre2 ++ [b], dt3, res + (b.toNat % 128) * 2 ^ (7 * i), i + 1, _, hv', hdt', by rw [List.append_assoc]; exact hbuf, rfl, by omega, ?_, ?_, by simpa [Nat.add_assoc, Nat.add_comm 1] using htot, S11⟩
              · rw [ep]
                have : b.toNat % 128 * 2 ^ (7 * i) ≤ 127 * 2 ^ (7 * i) := Nat.mul_le_mul_right _ (by omega)
                omega
              · rw [ep, ← hraw, hr, Nat.add_mul]
                have : r' * (2 ^ (7 * i) * 128) = 128 * r' * 2 ^ (7 * i) := by rw [Nat.mul_comm (2 ^ (7 * i)) 128, ← Nat.mul_assoc, Nat.mul_comm r' 128]
                rw [this, Nat.add_assoc]
      · rintro v h2 tk2 nw ⟨hf, T, t1, t2, rfl, rfl⟩ S2
        exact k hf T t1 t2 h2 tk2 S2
      · rintro e g₂ m h2 tk2 nw F2 ⟨rfl, hf⟩ R
        exact kE hf e g₂ m h2 tk2 F2 R
  refine c_fnW (c_fn (a := 135) (Ev.globC G C S (by k_is) hg rfl) fun h2 tk2 s2 => ?_) (by rw [hbE, hpE]; rfl) (hbE _) hc
  have S2 := S.grow s2
  refine sp_p Ev.int fun v3 h3 tk3 n3 s3 => ?_
  obtain ⟨t3, rfl⟩ := nt_int n3
  have S3 := S2.grow s3
  refine sp_n ⟨fnAt_K C S3 (by k_is), (mk h3 tk3 t3 _ S3 ?_).out⟩
  intro f c2 oc2 P2 doc pm ctv cm cs t3' t4' h4 tk4 hco S4
  refine ⟨f, rfl, ⟨_, _, _, _, S4.get (.head _)⟩, ?_⟩
  refine sp_p (qb _ _ S4) (fun v5 h5 tk5 n5 s5 => ?_) (hbE _)
  obtain ⟨t5, rfl⟩ := nt_bytes n5
  have S5 := S4.grow s5
  refine sp_p (qp _ _ S5) (fun v6 h6 tk6 n6 s6 => ?_) (hpE _)
  obtain ⟨t6, rfl⟩ := nt_int n6
  have S6 := S5.grow s6
  refine sp_n ⟨⟨_, _, _, _, S6.get (.head _)⟩, (go h6 tk6 f c2 oc2 P2 doc pm ctv cm cs t3' t4' t5 t6 _ _ _ S6 (.head _) (.tail _ (.head _)) (.tail _ (.tail _ (.head _))) (.tail _ (.tail _ (.tail _ (.tail _ (.head _))))) hco ?_ ?_).out⟩
  · intro hf T t1 t2 h7 tk7 S7
    exact k hf T t1 t2 h7 tk7 [(130, tabObj #[rawInt 74, rawInt 4, .ref c2]), (c2, oc2)] (.inr ⟨c2, oc2, P2, rfl, hco⟩) (St.rs S7)
  · intro hf e g₂ m h7 tk7 F7 R7
    exact kE hf e g₂ m h7 tk7 [(130, tabObj #[rawInt 74, rawInt 4, .ref c2]), (c2, oc2)] F7.drop.drop.drop (.inr ⟨c2, oc2, P2, rfl, hco⟩) (R7.sub (by grind))
end
end Mine
end
section
open PySem PySem.Spec PySem.Calls PySem.W PyProof.Rows
open LCg (NsObj ns_obj fr_but)
set_option maxRecDepth 100000
set_option maxHeartbeats 4000000
set_option linter.unusedVariables false
namespace Mine

section
variable {prog : Program} {w : World} {loose : List Str} {mean : ExcName → Option Value} {mg mb : Str → Option Value} {A A₀ : Around} {env cenv : Env} {outer : List Env} {base h₀ h : Heap} {L : Addr} {lv : Nat} {ns gl : List Str} {vs vs1 vs2 : List (Option Value)} {news nw foot rest dl tl Kp : List (Addr × Obj)} {x y n1 n2 : Str} {v u : Value} {p p1 p2 p3 p4 : Pos} {kk : Nat}
variable {gs : Array GenState} {dr : Drawn} {tk : Nat} {os : OsState} {Q E : Value → Shared → Prop} {QF : Flow → Shared → Prop} {e e1 e2 i o eb ep : Expr} {pos : Pos} {elts : List Expr} {rst : List Stmt} {s : Shared}

/-- a, b = e -/
theorem x_unp (hh : A.handled = none) (q : WP prog w A (eval e env) (fun v s₁ => ∃ T items, v = .ref T ∧ IsTup s₁.heap T items ∧ (assignEach elts env).length = items.size ∧ ∀ h', s₁.heap.StaysIn h' →
      WP prog w A (assignInOrder ((assignEach elts env).map (·.2)) items.toList) (fun _ s₂ => WP prog w A (execs rst env) QF E s₂) E { s₁ with heap := h' }) E s)
    (hstar : (assignEach elts env).findIdx? (·.1) = none) (hs : swapsWithSole [.Tuple elts kk p3] e p.line env = pure false) (hw : swappedStores [.Tuple elts kk p3] e env = pure none) :
    WP prog w A (execs (.Assign [.Tuple elts kk p3] e p :: rst) env) QF E s := x_cons (.mk (Assign_Tuple (wpAny_mono q.out (fun v s₁ h₁ => by
  obtain ⟨T, items, rfl, ht, hn, k⟩ := h₁
  exact assign_Tuple_tuple hh ht hn hstar fun h' he => wpAny_mono (k h' fun b o e => he b o (Nat.ne_of_lt (Heap.lt_size e)) e).out (fun _ s₂ h₂ => h₂.out) fun _ _ x => x) fun _ _ x => x) hs hw))
/-- a, b = e, both names of the frame -/
theorem x_pair (N : FnEnv env L ns gl) (hh : A.handled = none) (q : WP prog w A (eval e env) (fun v s₁ => ∃ T a b h tk vs vs1 vs2 news, v = .ref T ∧ s₁ = ⟨h, gs, dr, tk, os⟩ ∧ St h₀ L h ns vs news ∧ (T, tupO [a, b]) ∈ news ∧ Pt ns vs n1 (some (nt a)) vs1 ∧ Pt ns vs1 n2 (some (nt b)) vs2 ∧
      ∀ h' tk', St h₀ L h' ns vs2 news → WP prog w A (execs rst env) QF E ⟨h', gs, dr, tk', os⟩) E s)
    (hs : swapsWithSole [.Tuple [.Name n1 p1, .Name n2 p2] kk p3] e p.line env = pure false := by rfl) (hw : swappedStores [.Tuple [.Name n1 p1, .Name n2 p2] kk p3] e env = pure none := by rfl) :
    WP prog w A (execs (.Assign [.Tuple [.Name n1 p1, .Name n2 p2] kk p3] e p :: rst) env) QF E s := by
  refine x_unp hh (WP.mono q fun v s₁ h₁ => ?_) rfl hs hw
  obtain ⟨T, a, b, h, tk, vs, vs1, vs2, news, rfl, rfl, S, hm, pt1, pt2, k⟩ := h₁
  refine ⟨T, #[a, b], rfl, ⟨_, S.get hm, rfl, _, rfl⟩, rfl, fun h' st => .mk ?_⟩
  refine assignInOrder_cons (wpAny_assign_Name (st_loc (prog := prog) (w := w) (A := A) N (S.grow st) pt1 fun h2 tk2 S2 => ?_).out)
  refine assignInOrder_cons (wpAny_assign_Name (st_loc (prog := prog) (w := w) (A := A) N S2 pt2 fun h3 tk3 S3 => ?_).out)
  exact assignInOrder_nil (k h3 tk3 S3)
end

/-- both tables of the varint decoders -/
def VTs (vt : List (Addr × Obj)) : Prop := ∃ a b, vt = a ++ b ∧ VT1 a ∧ VT2 b

/-- a decoder of one element, at f; what stays: cl -/
def ES (prog : Program) (w : World) (lv : Nat) (f : Addr) (cl : List (Addr × Obj)) (Ok : List UInt8 → Value → Prop) : Prop :=
  ∀ {loose : List Str} {mean : ExcName → Option Value} {mg mb : Str → Option Value} {A A₀ : Around} {env : Env} {outer : List Env} {base h₀ h : Heap} {L : Addr} {ns : List Str} {vs : List (Option Value)} {vt rest Kp : List (Addr × Obj)}
    {gs : Array GenState} {dr : Drawn} {tk : Nat} {os : OsState} {Q E : Value → Shared → Prop} (full : Bool) (pre post oc dt : List UInt8) (val : Value) (tb tp : Tok),
    Cx w loose mean mg mb A env outer A₀ base h₀ L lv → St h₀ L h ns vs (vt ++ rest) → VTs vt → Kx base h₀ outer Kp → (∀ q ∈ cl, h.get? q.1 = some q.2 ∧ ∀ r ∈ vt, r.1 ≠ q.1) → Ok oc val → Dt full post oc dt → (pre ++ dt).length ≤ 16777216 →
    (full = true → ∀ T v' t h' tk' vt', nt v' = nt val → VTs vt' → St h₀ L h' ns vs ((T, tupO [v', .int (pre.length + oc.length : Nat) t]) :: vt' ++ rest) → Q (.ref T) ⟨h', gs, dr, tk', os⟩) →
    (full = false → ∀ e g₂ m h' tk' vt', FrE h₀ L g₂ m (vt' ++ rest) → VTs vt' → RX base g₂ (env :: outer) e (vt' ++ (rest ++ Kp)) h' → E (.ref e) ⟨h', gs, dr, tk', os⟩) →
    WP prog w A (PySem.call (.ref f) [.bytes (pre ++ dt).toArray tb, .int pre.length tp]) Q E ⟨h, gs, dr, tk, os⟩

def VOk2 (conv : Nat → Int) (oc : List UInt8) (val : Value) : Prop := ∃ raw, VOct oc raw ∧ oc.length ≤ 10 ∧ nt val = .int (conv raw) 0

theorem RX.cast {base g : Heap} {l : List Env} {e : Addr} {K K' : List (Addr × Obj)} {h : Heap} (R : RX base g l e K h) (hs : K = K') : RX base g l e K' h := hs ▸ R
theorem St.swap3 {h₀ h : Heap} {L : Addr} {ns : List Str} {vs : List (Option Value)} {q : Addr × Obj} {a b : List (Addr × Obj)} (S : St h₀ L h ns vs (q :: a ++ b)) : St h₀ L h ns vs (q :: (b ++ a)) := S.re (List.Perm.cons q List.perm_append_comm)

section
variable {prog : Program} {w : World}

/-- _DecodeVarint -/
theorem es_142 : ES prog w 5 142 [] (VOk2 (fun raw => ((raw % 2 ^ 64 : Nat) : Int))) := by
  intro loose mean mg mb A A₀ env outer base h₀ h L ns vs vt rest Kp gs dr tk os Q E full pre post oc dt val tb tp C S V kx _ ok hd hz k kE
  obtain ⟨raw, ho, hl, hval⟩ := ok
  refine call_gx (RelE := fun nw => VTs nw ∧ full = false) (cl := []) (foot := vt) (rest := rest) (args := ⟨[.bytes ((pre ++ dt).toArray) tb, .int pre.length tp], []⟩) (binds := [(Str.ofString "buffer", .bytes ((pre ++ dt).toArray) tb), (Str.ofString "pos", .int pre.length tp)]) (Rel := fun v nw => full = true ∧ ∃ T v2 t vt2, v = .ref T ∧ nt v2 = nt val ∧ VTs vt2 ∧ nw = (T, tupO [v2, .int (pre.length + oc.length : Nat) t]) :: vt2) (ns' := [Str.ofString "buffer", Str.ofString "pos"]) (gl' := [Str.ofString "_VarintDecoder"]) C S (kx) (K_get C S (by k_is)) rfl (K_code C S (by k_is)) (BindsTo.of_eq rfl) (fnEnv_ofG rfl (by decide +kernel) (by decide +kernel) (by decide +kernel) (by decide +kernel)) (vs2 := fun _ => [some (.bytes ((pre ++ dt).toArray) 0), some (.int pre.length 0)]) (nw2 := fun L' => vt) (fun L' => (.loc .hd (.loc (.tl .hd) .nil))) ?_ ?_ ?_
  · intro g L' h₁ tk₁ env' A' he hA C' N' S' kp kx' Q' E' ret rai
    clear hA kp
    obtain ⟨va, vb, rfl, hva, hvb⟩ := V
    refine x_retW (vdU (M := 18446744073709551615) (rest := vb) C' N'.gl (.head _) S' hva kx' (fun h nw S => Ev.loc N' S .hd) (fun h nw S => Ev.loc N' S (.tl .hd)) ho hl hd hz (fun m => bitAnd_mask m 64) (fun hf T t1 t2 h2 tk2 tl2 V2 S2 => ?_) (fun hf e g₂ m h2 tk2 tl2 F2 V2 R2 => ?_))
    · exact ret _ _ _ _ _ _ S2 ⟨hf, T, .int _ t1, t2, tl2 ++ vb, rfl, hval.symm, ⟨tl2, vb, rfl, V2, hvb⟩, rfl⟩
    · exact rai.on e g₂ m h2 tk2 (tl2 ++ vb) F2 ⟨⟨tl2, vb, rfl, V2, hvb⟩, hf⟩ (R2.cast (List.append_assoc ..).symm)
  · rintro v h2 tk2 nw ⟨hf, T, v2, t, vt2, rfl, hn, V2, rfl⟩ S2
    exact k hf T v2 t h2 tk2 vt2 hn V2 S2
  · rintro e g₂ m h2 tk2 nw F2 ⟨V2, hf⟩ R
    exact kE hf e g₂ m h2 tk2 nw F2 V2 R

/-- _DecodeVarint32 -/
theorem es_156 : ES prog w 5 156 [] (VOk2 (fun raw => ((raw % 2 ^ 32 : Nat) : Int))) := by
  intro loose mean mg mb A A₀ env outer base h₀ h L ns vs vt rest Kp gs dr tk os Q E full pre post oc dt val tb tp C S V kx _ ok hd hz k kE
  obtain ⟨raw, ho, hl, hval⟩ := ok
  refine call_gx (RelE := fun nw => VTs nw ∧ full = false) (cl := []) (foot := vt) (rest := rest) (args := ⟨[.bytes ((pre ++ dt).toArray) tb, .int pre.length tp], []⟩) (binds := [(Str.ofString "buffer", .bytes ((pre ++ dt).toArray) tb), (Str.ofString "pos", .int pre.length tp)]) (Rel := fun v nw => full = true ∧ ∃ T v2 t vt2, v = .ref T ∧ nt v2 = nt val ∧ VTs vt2 ∧ nw = (T, tupO [v2, .int (pre.length + oc.length : Nat) t]) :: vt2) (ns' := [Str.ofString "buffer", Str.ofString "pos"]) (gl' := [Str.ofString "_VarintDecoder"]) C S (kx) (K_get C S (by k_is)) rfl (K_code C S (by k_is)) (BindsTo.of_eq rfl) (fnEnv_ofG rfl (by decide +kernel) (by decide +kernel) (by decide +kernel) (by decide +kernel)) (vs2 := fun _ => [some (.bytes ((pre ++ dt).toArray) 0), some (.int pre.length 0)]) (nw2 := fun L' => vt) (fun L' => (.loc .hd (.loc (.tl .hd) .nil))) ?_ ?_ ?_
  · intro g L' h₁ tk₁ env' A' he hA C' N' S' kp kx' Q' E' ret rai
    clear hA kp
    obtain ⟨va, vb, rfl, hva, hvb⟩ := V
    refine x_retW (vdU (M := 4294967295) (rest := vb) C' N'.gl (.head _) S' hva kx' (fun h nw S => Ev.loc N' S .hd) (fun h nw S => Ev.loc N' S (.tl .hd)) ho hl hd hz (fun m => bitAnd_mask m 32) (fun hf T t1 t2 h2 tk2 tl2 V2 S2 => ?_) (fun hf e g₂ m h2 tk2 tl2 F2 V2 R2 => ?_))
    · exact ret _ _ _ _ _ _ S2 ⟨hf, T, .int _ t1, t2, tl2 ++ vb, rfl, hval.symm, ⟨tl2, vb, rfl, V2, hvb⟩, rfl⟩
    · exact rai.on e g₂ m h2 tk2 (tl2 ++ vb) F2 ⟨⟨tl2, vb, rfl, V2, hvb⟩, hf⟩ (R2.cast (List.append_assoc ..).symm)
  · rintro v h2 tk2 nw ⟨hf, T, v2, t, vt2, rfl, hn, V2, rfl⟩ S2
    exact k hf T v2 t h2 tk2 vt2 hn V2 S2
  · rintro e g₂ m h2 tk2 nw F2 ⟨V2, hf⟩ R
    exact kE hf e g₂ m h2 tk2 nw F2 V2 R

/-- _DecodeSignedVarint -/
theorem es_149 : ES prog w 5 149 [] (VOk2 (sgn 64)) := by
  intro loose mean mg mb A A₀ env outer base h₀ h L ns vs vt rest Kp gs dr tk os Q E full pre post oc dt val tb tp C S V kx _ ok hd hz k kE
  obtain ⟨raw, ho, hl, hval⟩ := ok
  refine call_gx (RelE := fun nw => VTs nw ∧ full = false) (cl := []) (foot := vt) (rest := rest) (args := ⟨[.bytes ((pre ++ dt).toArray) tb, .int pre.length tp], []⟩) (binds := [(Str.ofString "buffer", .bytes ((pre ++ dt).toArray) tb), (Str.ofString "pos", .int pre.length tp)]) (Rel := fun v nw => full = true ∧ ∃ T v2 t vt2, v = .ref T ∧ nt v2 = nt val ∧ VTs vt2 ∧ nw = (T, tupO [v2, .int (pre.length + oc.length : Nat) t]) :: vt2) (ns' := [Str.ofString "buffer", Str.ofString "pos"]) (gl' := [Str.ofString "_SignedVarintDecoder"]) C S (kx) (K_get C S (by k_is)) rfl (K_code C S (by k_is)) (BindsTo.of_eq rfl) (fnEnv_ofG rfl (by decide +kernel) (by decide +kernel) (by decide +kernel) (by decide +kernel)) (vs2 := fun _ => [some (.bytes ((pre ++ dt).toArray) 0), some (.int pre.length 0)]) (nw2 := fun L' => vt) (fun L' => (.loc .hd (.loc (.tl .hd) .nil))) ?_ ?_ ?_
  · intro g L' h₁ tk₁ env' A' he hA C' N' S' kp kx' Q' E' ret rai
    clear hA kp
    obtain ⟨va, vb, rfl, hva, hvb⟩ := V
    refine x_retW (vdS (bt := 64) (rest := va) C' N'.gl (.head _) S'.comm hvb kx' (fun h nw S => Ev.loc N' S .hd) (fun h nw S => Ev.loc N' S (.tl .hd)) ho hl hd hz (by decide) (fun hf T t1 t2 h2 tk2 tl2 V2 S2 => ?_) (fun hf e g₂ m h2 tk2 tl2 F2 V2 R2 => ?_))
    · exact ret _ _ _ _ _ _ S2.swap3 ⟨hf, T, .int _ t1, t2, va ++ tl2, rfl, hval.symm, ⟨va, tl2, rfl, hva, V2⟩, rfl⟩
    · exact rai.on e g₂ m h2 tk2 (va ++ tl2) F2.comm ⟨⟨va, tl2, rfl, hva, V2⟩, hf⟩ (R2.sub (by intro q hq; simp only [List.mem_append] at hq ⊢; rcases hq with (hq | hq) | hq <;> simp [hq]))
  · rintro v h2 tk2 nw ⟨hf, T, v2, t, vt2, rfl, hn, V2, rfl⟩ S2
    exact k hf T v2 t h2 tk2 vt2 hn V2 S2
  · rintro e g₂ m h2 tk2 nw F2 ⟨V2, hf⟩ R
    exact kE hf e g₂ m h2 tk2 nw F2 V2 R

/-- _DecodeSignedVarint32 -/
theorem es_163 : ES prog w 5 163 [] (VOk2 (sgn 32)) := by
  intro loose mean mg mb A A₀ env outer base h₀ h L ns vs vt rest Kp gs dr tk os Q E full pre post oc dt val tb tp C S V kx _ ok hd hz k kE
  obtain ⟨raw, ho, hl, hval⟩ := ok
  refine call_gx (RelE := fun nw => VTs nw ∧ full = false) (cl := []) (foot := vt) (rest := rest) (args := ⟨[.bytes ((pre ++ dt).toArray) tb, .int pre.length tp], []⟩) (binds := [(Str.ofString "buffer", .bytes ((pre ++ dt).toArray) tb), (Str.ofString "pos", .int pre.length tp)]) (Rel := fun v nw => full = true ∧ ∃ T v2 t vt2, v = .ref T ∧ nt v2 = nt val ∧ VTs vt2 ∧ nw = (T, tupO [v2, .int (pre.length + oc.length : Nat) t]) :: vt2) (ns' := [Str.ofString "buffer", Str.ofString "pos"]) (gl' := [Str.ofString "_SignedVarintDecoder"]) C S (kx) (K_get C S (by k_is)) rfl (K_code C S (by k_is)) (BindsTo.of_eq rfl) (fnEnv_ofG rfl (by decide +kernel) (by decide +kernel) (by decide +kernel) (by decide +kernel)) (vs2 := fun _ => [some (.bytes ((pre ++ dt).toArray) 0), some (.int pre.length 0)]) (nw2 := fun L' => vt) (fun L' => (.loc .hd (.loc (.tl .hd) .nil))) ?_ ?_ ?_
  · intro g L' h₁ tk₁ env' A' he hA C' N' S' kp kx' Q' E' ret rai
    clear hA kp
    obtain ⟨va, vb, rfl, hva, hvb⟩ := V
    refine x_retW (vdS (bt := 32) (rest := va) C' N'.gl (.head _) S'.comm hvb kx' (fun h nw S => Ev.loc N' S .hd) (fun h nw S => Ev.loc N' S (.tl .hd)) ho hl hd hz (by decide) (fun hf T t1 t2 h2 tk2 tl2 V2 S2 => ?_) (fun hf e g₂ m h2 tk2 tl2 F2 V2 R2 => ?_))
    · exact ret _ _ _ _ _ _ S2.swap3 ⟨hf, T, .int _ t1, t2, va ++ tl2, rfl, hval.symm, ⟨va, tl2, rfl, hva, V2⟩, rfl⟩
    · exact rai.on e g₂ m h2 tk2 (va ++ tl2) F2.comm ⟨⟨va, tl2, rfl, hva, V2⟩, hf⟩ (R2.sub (by intro q hq; simp only [List.mem_append] at hq ⊢; rcases hq with (hq | hq) | hq <;> simp [hq]))
  · rintro v h2 tk2 nw ⟨hf, T, v2, t, vt2, rfl, hn, V2, rfl⟩ S2
    exact k hf T v2 t h2 tk2 vt2 hn V2 S2
  · rintro e g₂ m h2 tk2 nw F2 ⟨V2, hf⟩ R
    exact kE hf e g₂ m h2 tk2 nw F2 V2 R
end
end Mine
end
section
open PySem PySem.Spec PySem.Calls PySem.W PyProof.Rows
open LCg (NsObj ns_obj fr_but)
set_option maxRecDepth 100000
set_option maxHeartbeats 4000000
set_option linter.unusedVariables false
namespace Mine

section
variable {prog : Program} {w : World} {loose : List Str} {mean : ExcName → Option Value} {mg mb : Str → Option Value} {A A₀ : Around} {env cenv : Env} {outer : List Env} {base h₀ h : Heap} {L D : Addr} {lv : Nat} {ns gl : List Str} {vs vs1 vs2 : List (Option Value)} {news nw foot rest dl tl Kp : List (Addr × Obj)} {x y n1 n2 : Str} {v u : Value} {p p1 p2 p3 p4 p' : Pos} {kk : Nat}
variable {gs : Array GenState} {dr : Drawn} {tk : Nat} {os : OsState} {Q E : Value → Shared → Prop} {QF : Flow → Shared → Prop} {e e1 e2 i o a b : Expr} {pos : Pos} {elts : List Expr} {rst : List Stmt} {s : Shared} {od od' : Obj} {kvs : List (Int × Value)} {n : Int}

theorem isInt_of {n : Int} {t : Tok} : (intKind prog w).is n (.int n t) = true := by show Value.isInt n (.int n t) = true; simp [Value.isInt]
theorem dictOf_of (S : St h₀ L h ns vs news) (hm : (D, od) ∈ news) (hd : od.IsDictOf (intKind prog w) kvs) : h.DictOf (intKind prog w) D kvs := Heap.dictOf_iff.mpr ⟨od, S.get hm, hd⟩

/-- a method's call, by its name -/
theorem w_meth {name : Str} {args : List Expr} {s : Shared} {pl : Sem Bool}
    (q : WP prog w A (eval o env) (fun ov s₁ => ∃ id first, wpAny (model prog w) A (getMethod ov name pl) (fun fx s₂ => fx = (.builtin id, first) ∧ s₂ = s₁) E s₁ ∧
      WP prog w A (spliced (backTo p' (starEach args env))) (fun vs s₂ => WP prog w A (PySem.call (.builtin id) (first ++ vs)) Q E s₂) E s₁) E s)
    (hpl : ((backTo p' (starEach args env)).any (·.1)) = false) {b : Expr} {bs : List Expr} (ha : args = b :: bs) (he : starEach (b :: bs) env = (false, eval b env) :: starEach bs env)
    (hc : eval (.Call (.Attribute o name p) args [] p') env = (do
        let ov ← eval o env
        standAt p.atName
        let __x ← holding [ov] (getMethod ov name pl)
        match __x with
          | (f, first) => callWith p' f first (backTo p' (starEach args env)) [])) :
    WP prog w A (eval (.Call (.Attribute o name p) args [] p') env) Q E s := .mk (by
  subst ha
  refine MethodCall_ (wpAny_mono q.out (fun ov s₁ h₁ => ?_) fun _ _ x => x) hc
  obtain ⟨id, first, hg, hq⟩ := h₁
  refine wpAny_mono hg (fun fx s₂ h₂ => ?_) fun _ _ x => x
  obtain ⟨rfl, rfl⟩ := h₂
  refine callWith_of (P := fun _ => True) (by rw [hpl]; rfl) (fun h _ => ⟨_, .inr (.inl rfl), Looks.of_pure rfl⟩) ?_
  have z := hq.out
  rw [bt_cons he] at z ⊢
  exact evalArgs_plain (wpAny_mono z (fun vs s' y => ⟨trivial, y.out⟩) fun _ _ y => y))

/-- D.get(n) -/
theorem w_dget (S : St h₀ L h ns vs news) (hm : (D, od) ∈ news) (hd : od.IsDictOf (intKind prog w) kvs) (lo : (D == sysModules) = false) (qo : Ev prog w A env h o (.ref D)) (qk : Ev prog w A env h a (.int n 0)) (x : Option Value) (hl : valueAt kvs n = x)
    (k : ∀ h' tk', h.StaysIn h' → Q (x.getD .none) ⟨h', gs, dr, tk', os⟩)
    (he : starEach [a] env = (false, eval a env) :: starEach [] env := by rfl)
    (hc : eval (.Call (.Attribute o (Str.ofString "get") p) [a] [] p') env = (do
        let ov ← eval o env
        standAt p.atName
        let __x ← holding [ov] (getMethod ov (Str.ofString "get") (do return (← importBound o env).getD true))
        match __x with
          | (f, first) => callWith p' f first (backTo p' (starEach [a] env)) []) := by rfl) :
    WP prog w A (eval (.Call (.Attribute o (Str.ofString "get") p) [a] [] p') env) Q E ⟨h, gs, dr, tk, os⟩ := by
  refine w_meth (Ev.use' qo fun ov h2 tk2 n2 s2 => ?_) (by rw [he]; rfl) rfl he hc
  obtain rfl := nt_ref n2
  have S2 := S.grow s2
  refine ⟨"dict.get", [.ref D], kdg_method S2.nw hm hd ⟨rfl, rfl⟩, ?_⟩
  refine sp_p (qk.grow s2) (fun v3 h3 tk3 n3 s3 => ?_) he
  obtain ⟨t3, rfl⟩ := nt_int n3
  exact sp_n (.mk (kdg_get1 (S2.grow s3).nw hm hd lo isInt_of x hl (k _ _ (stays_trans s2 s3))))

/-- dict.setdefault, a new key -/
theorem c_setdef {nw : Obj → List (Addr × Obj)} {t : Tok} (S : St h₀ L h ns vs news) (sel : ∀ o', Sel D od o' news (nw o')) (hd : od.IsDictOf (intKind prog w) []) (lo : (D == sysModules) = false)
    (k : ∀ h' o', o'.IsDictOf (intKind prog w) [(n, v)] → St h₀ L h' ns vs (nw o') → Q v ⟨h', gs, dr, tk + 1, os⟩) : WP prog w A (PySem.call (.builtin "dict.setdefault") [.ref D, .int n t, v]) Q E ⟨h, gs, dr, tk, os⟩ := .mk (by
  have hD := dictOf_of S (sel od).mem hd
  refine call_meetsIn PySem.F.slot_dict_setdefault hD.typeIs PySem.F.entry_dict_setdefault (PySem.F.args_dict_setdefault_3 _ _ _) (kt_meets_setdefault (intKind prog w) D isInt_of lo v) ⟨[], hD, (by rw [sizeLine_eq]; decide), (fun v' hv' => nomatch hv'), fun _ h' hmm hs => ?_⟩
  obtain ⟨o', ho', hd'⟩ := Heap.dictOf_iff.mp hmm
  exact k h' o' hd' (S.but (sel o') (fun b x hb e => (hs.2 b hb).trans e) ho'))

/-- D[n] = e -/
theorem x_dset {nw : Obj → List (Addr × Obj)} (S : St h₀ L h ns vs news) (sel : ∀ o', Sel D od o' news (nw o')) (hd : od.IsDictOf (intKind prog w) kvs) (qe : Ev prog w A env h e u) (qo : Ev prog w A env h o (.ref D)) (qk : Ev prog w A env h a (.int n 0)) (hz : kvs.length ≤ 16777216)
    (k : ∀ v' h' tk' o', nt v' = u → o'.IsDictOf (intKind prog w) (stored kvs n v') → St h₀ L h' ns vs (nw o') → WP prog w A (execs rst env) QF E' ⟨h', gs, dr, tk', os⟩)
    (hs : swapsWith e (some (.Subscript o a p4)) p.line env = pure false := by rfl) :
    WP prog w A (execs (.Assign [.Subscript o a p4] e p :: rst) env) QF E' ⟨h, gs, dr, tk, os⟩ := x_cons (.mk (by
  (with_reducible refine wpAny_Assign_Subscript (qe.use h (stays_refl h) gs dr tk os _ _ fun v' h2 tk2 e1 s2 => (qo.use h2 s2 gs dr tk2 os _ _ fun ov h3 tk3 e3 s3 => (qk.use h3 (stays_trans s2 s3) gs dr tk3 os _ _ fun kv h4 tk4 e4 s4 => ?_).out).out).out hs)
  obtain rfl := nt_ref e3
  obtain ⟨t4, rfl⟩ := nt_int e4
  have S4 := ((S.grow s2).grow s3).grow s4
  refine wpAny_setItem_pairs (hsz := by rw [sizeLine_eq]; exact hz) isInt_of (dictOf_of S4 (sel od).mem hd) fun h' hmm hs => ?_
  obtain ⟨o', ho', hd'⟩ := Heap.dictOf_iff.mp hmm
  exact (k v' h' _ o' e1 hd' (S4.but (sel o') (fun b x hb e => (hs.2 b hb).trans e) ho')).out))

/-- D.pop(n, None), said as a statement -/
theorem x_dpop {E' : Value → Shared → Prop} {nw : Obj → List (Addr × Obj)} (S : St h₀ L h ns vs news) (sel : ∀ o', Sel D od o' news (nw o')) (hd : od.IsDictOf (intKind prog w) kvs) (hk : kvs = [] ∨ ∃ v, kvs = [(n, v)]) (lo : (D == sysModules) = false) (qo : Ev prog w A env h o (.ref D)) (qk : Ev prog w A env h a (.int n 0)) (qb : Ev prog w A env h b .none)
    (k : ∀ h' tk' o', o'.IsDictOf (intKind prog w) [] → St h₀ L h' ns vs (nw o') → WP prog w A (execs rst env) QF E' ⟨h', gs, dr, tk', os⟩) (hi : interactive env = false)
    (he : starEach [a, b] env = (false, eval a env) :: starEach [b] env := by rfl) (he2 : starEach [b] env = (false, eval b env) :: starEach [] env := by rfl)
    (hc : eval (.Call (.Attribute o (Str.ofString "pop") p) [a, b] [] p') env = (do
        let ov ← eval o env
        standAt p.atName
        let __x ← holding [ov] (getMethod ov (Str.ofString "pop") (do return (← importBound o env).getD true))
        match __x with
          | (f, first) => callWith p' f first (backTo p' (starEach [a, b] env)) []) := by rfl)
    (hs : swapsWith (.Call (.Attribute o (Str.ofString "pop") p) [a, b] [] p') none p2.line env = pure false := by rfl) :
    WP prog w A (execs (.Expr (.Call (.Attribute o (Str.ofString "pop") p) [a, b] [] p') p2 :: rst) env) QF E' ⟨h, gs, dr, tk, os⟩ := x_cons (.mk (by
  (with_reducible refine wpAny_Expr_any ?_ hi hs)
  refine (w_meth (Ev.use' qo fun ov h2 tk2 n2 s2 => ?_) (by rw [he, he2]; rfl) rfl he hc).out
  obtain rfl := nt_ref n2
  have S2 := S.grow s2
  refine ⟨"dict.pop", [.ref D], kob_method PySem.F.slot_dict_pop PySem.F.type_dict_pop S2.nw (sel od).mem hd ⟨rfl, rfl⟩, ?_⟩
  refine sp_p (qk.grow s2) (fun v3 h3 tk3 n3 s3 => ?_) he
  obtain ⟨t3, rfl⟩ := nt_int n3
  refine sp_p ((qb.grow s2).grow s3) (fun v4 h4 tk4 n4 s4 => ?_) he2
  obtain rfl := nt_none n4
  have S4 := (S2.grow s3).grow s4
  have hD := dictOf_of S4 (sel od).mem hd
  refine sp_n (.mk ?_)
  rcases hk with rfl | ⟨v, rfl⟩
  · refine call_meetsIn PySem.F.slot_dict_pop hD.typeIs PySem.F.entry_dict_pop (PySem.F.args_dict_pop_3 _ _ _) (meets_dict_pop_default (intKind prog w) D isInt_of lo rfl .none) ⟨[], hD, rfl, ?_⟩
    exact (k _ _ od hd (S4.but (sel od) (fun b x hb e => e) (S4.get (sel od).mem))).out
  · refine call_meetsIn PySem.F.slot_dict_pop hD.typeIs PySem.F.entry_dict_pop (PySem.F.args_dict_pop_3 _ _ _) (meets_dict_pop_there (intKind prog w) D isInt_of [.none] (.inr ⟨_, rfl⟩) rfl) ⟨[(n, v)], v, hD, (by rw [sizeLine_eq]; exact Nat.le_of_ble_eq_true rfl), (by simp [valueAt]), fun h' hmm hs => ?_⟩
    obtain ⟨o', ho', hd'⟩ := Heap.dictOf_iff.mp hmm
    have e0 : without [(n, v)] n = [] := by simp [without]
    rw [e0] at hd'
    exact (k _ _ o' hd' (S4.but (sel o') (fun b x hb e => (hs.2 b hb).trans e) ho')).out))

/-- «e is None» -/
theorem Ts.isNone (q : Ev prog w A env h e v) (hv : v = .none ∨ ∃ a, v = .ref a) (qn : Ev prog w A env h a .none) : Ts prog w A env h (.Compare e [.Is] [a] p) (decide (v = .none)) := fun h1 s1 gs dr tk os Q E k => by
  refine w_tcmp (q.use h1 s1 gs dr tk os _ _ fun v' h2 tk2 n2 s2 => qn.use h2 (stays_trans s1 s2) gs dr tk2 os _ _ fun v3 h3 tk3 n3 s3 => ?_) (bim rfl rfl _)
  obtain rfl := nt_none n3
  rcases hv with rfl | ⟨a, rfl⟩
  · obtain rfl := nt_none n2
    exact .mk (wpAny_is_self rfl (WP.mk (wpAny_truthy_bool (k _ _ (stays_trans s2 s3)))))
  · obtain rfl := nt_ref n2
    exact .mk (is_ref_none (WP.mk (wpAny_truthy_bool (k _ _ (stays_trans s2 s3)))))
end
end Mine
end
section
open PySem PySem.Spec PySem.Calls PySem.W PyProof.Rows
open LCg (NsObj ns_obj fr_but)
set_option maxRecDepth 100000
set_option maxHeartbeats 4000000
set_option linter.unusedVariables false
namespace Mine

section
variable {prog : Program} {w : World} {loose : List Str} {mean : ExcName → Option Value} {mg mb : Str → Option Value} {A A₀ : Around} {env cenv : Env} {outer : List Env} {base h₀ h : Heap} {L D : Addr} {lv : Nat} {ns gl : List Str} {vs vs1 vs2 : List (Option Value)} {news nw foot rest dl tl Kp : List (Addr × Obj)} {x y n1 n2 : Str} {v u : Value} {p p1 p2 p3 p4 p' np cpos : Pos} {kk : Nat}
variable {gs : Array GenState} {dr : Drawn} {tk : Nat} {os : OsState} {Q E : Value → Shared → Prop} {QF : Flow → Shared → Prop} {e e1 e2 i o a b : Expr} {pos : Pos} {elts : List Expr} {rst : List Stmt} {s : Shared}

/-- raise X(e), X a class of the program -/
theorem x_raise {c : Addr} (N : FnEnv env L ns gl) (C : Cx w loose mean mg mb A env outer A₀ base h₀ L lv) (S : St h₀ L h ns vs news) (ex : nsIn (hd.heap_39 w.params) mainGlobals x = some (some (.ref c))) (q : excIn (hd.heap_39 w.params) c [.type "Exception", .type "BaseException", .type "object"] "Exception.__new__" = true) (hx : x ∈ gl) (qe : Ev prog w A env h e v)
    (kE : ∀ h1 h' e tk, h.StaysIn h1 → Fresh h1 h' e (.ref c) → E (.ref e) ⟨h', gs, dr, tk, os⟩)
    (he : starEach [e] env = (false, eval e env) :: starEach [] env := by rfl) :
    WP prog w A (execs (.Raise (some (.Call (.Name x np) [e] [] cpos)) none p :: rst) env) QF E ⟨h, gs, dr, tk, os⟩ := x_cons (.mk (by
  have O := own_of_in C.X (topRead_of C.T) ex q
  obtain ⟨tl, Nn, nm, qq, bs, hdct, sn, sub, ab, col, dd, k0, k1, k2, k3, k5, mN, hC, hN, hni, T⟩ := O.obj
  refine wpAny_Raise_call_subT (C := c) (nm := nm) (q := qq) (N := Nn) (bs := bs) (bm := tl) (hdct := hdct) (sn := sn) (sub := sub) (ab := ab) (col := col) (dd := dd) (k0 := k0) (k1 := k1) (k2 := k2) (k3 := k3) (k5 := k5)
    F.excBase_Exception (mN := mN) (T.hasType F.excBase_Exception.hasBase) C.hand (by rw [he]; rfl) hni ?_
  refine (Ev.glob N C S ex hx rfl h (stays_refl h) gs dr tk os _ _ fun v2 h2 tk2 n2 s2 => ?_).out
  obtain rfl := nt_ref n2
  refine ⟨rfl, ?_⟩
  have hp : ∀ {h' : Heap}, h.StaysIn h' → h₀.StaysIn h' := fun s => S.elim fun m F _ => fun b o e => s b o (F.keep b o e)
  rw [he]
  refine Calls.evalArgs_plain (spliced_cons (qe.use h2 s2 gs dr tk2 os _ _ fun v3 h3 tk3 n3 s3 => ?_).out)
  have k3' := hp (stays_trans s2 s3)
  exact spliced_nil ⟨rfl, by rw [sizeLine_eq]; exact Nat.le_of_ble_eq_true rfl, k3' _ _ hC, hN.keeps k3', T.keeps k3', fun h' e hm => kE h3 h' e tk3 (stays_trans s2 s3) (.ofMade hm)⟩))

theorem Ts.eqS {s1 s2 : Str} (ql : Ev prog w A env h e1 (.str s1 0)) (qr : Ev prog w A env h e2 (.str s2 0)) : Ts prog w A env h (.Compare e1 [.Eq] [e2] p) (s1 == s2) := Ts.cmp ql qr (fun v' u' h1 gs dr tk os Q E _ n1 n2 q => by
  obtain ⟨t, rfl⟩ := nt_str n1
  obtain ⟨t', rfl⟩ := nt_str n2
  exact .mk (PyProof.Rows.eq_str (q _ _ (stays_refl h1)))) (bim rfl rfl _)
end

example (w : World) : nsIn (hd.heap_39 w.params) mainGlobals (Str.ofString "StructError") = some (some (.ref 61)) := by k_is
example (w : World) : nsIn (hd.heap_39 w.params) mainGlobals (Str.ofString "DecodeError") = some (some (.ref 37)) := by k_is
example (w : World) : excIn (hd.heap_39 w.params) 61 [.type "Exception", .type "BaseException", .type "object"] "Exception.__new__" = true := by first | k_is | kernel_rfl
example (w : World) : excIn (hd.heap_39 w.params) 37 [.type "Exception", .type "BaseException", .type "object"] "Exception.__new__" = true := by first | k_is | kernel_rfl
example (w : World) : findCls (hd.heap_39 w.params) (.type "int") (.type "type") (PySem.Str.ofString "from_bytes") = some (.get (.builtin "classmethod_descriptor.__get__") (.builtin "int.from_bytes") .none (.type "int")) := by first | k_is | kernel_rfl
end Mine
end
section
open PySem PySem.Spec PySem.Calls PySem.W PyProof.Rows
open LCg (NsObj ns_obj fr_but)
set_option maxRecDepth 100000
set_option maxHeartbeats 4000000
set_option linter.unusedVariables false
namespace Mine

/-- the formats -/
inductive Fmt : Str → Nat → Bool → Prop
  | I : Fmt (Str.ofString "<I") 4 false
  | i : Fmt (Str.ofString "<i") 4 true
  | Q : Fmt (Str.ofString "<Q") 8 false
  | q : Fmt (Str.ofString "<q") 8 true
def leV (xs : List UInt8) : Nat := xs.foldr (fun b a => a * 256 + b.toNat) 0
def fval (sg : Bool) (sz : Nat) (xs : List UInt8) : Int := if sg ∧ 2 ^ (8 * sz - 1) ≤ leV xs then (leV xs : Int) - 2 ^ (8 * sz) else leV xs
theorem value_leV (xs : List UInt8) : KFB.value ((xs.map fun c => (c.toNat : Int)).reverse) = (leV xs : Int) := by
  unfold KFB.value leV
  rw [List.foldl_reverse]
  induction xs with
  | nil => rfl
  | cons b r ih => rw [List.map_cons, List.foldr_cons, ih, List.foldr_cons]; push_cast; rfl

section
variable {prog : Program} {w : World} {loose : List Str} {mean : ExcName → Option Value} {mg mb : Str → Option Value} {A A₀ : Around} {env cenv : Env} {outer : List Env} {base h₀ h : Heap} {L D : Addr} {lv : Nat} {ns gl : List Str} {vs vs1 vs2 : List (Option Value)} {news nw foot rest dl tl Kp : List (Addr × Obj)} {x y n1 n2 : Str} {v u : Value} {p p1 p2 p3 p4 p' np cpos : Pos} {kk : Nat}
variable {gs : Array GenState} {dr : Drawn} {tk : Nat} {os : OsState} {Q E : Value → Shared → Prop} {QF : Flow → Shared → Prop} {e e1 e2 i o a b : Expr} {pos : Pos} {elts : List Expr} {rst : List Stmt} {s : Shared}

/-- _calcsize -/
theorem calc_ok {f : Str} {sz : Nat} {sg : Bool} {t : Tok} (C : Cx w loose mean mg mb A env outer A₀ base h₀ L (lv + 1)) (S : St h₀ L h ns vs rest) (hf : Fmt f sz sg)
    (k : ∀ t h' tk', St h₀ L h' ns vs rest → Q (.int sz t) ⟨h', gs, dr, tk', os⟩) : WP prog w A (PySem.call (.ref 71) [.str f t]) Q E ⟨h, gs, dr, tk, os⟩ := by
  refine call_fn (foot := []) (rest := rest) (args := ⟨[.str f t], []⟩) (binds := [(Str.ofString "format", .str f t)]) (Rel := fun v nw => ∃ t, v = .int sz t ∧ nw = []) (ns' := [Str.ofString "format"]) (gl' := []) (vs' := [some (.str f 0)]) C S (K_get C S (by k_is)) rfl (K_code C S (by k_is)) (BindsTo.of_eq rfl) (locs rfl) (by decide)
    (fnEnv_of rfl (by decide +kernel) (by decide +kernel) (by decide +kernel) (by decide +kernel)) (hvs_of (ps := [Str.ofString "format"]) (args := [.str f t]) (by decide +kernel) rfl []) ?_ ?_
  · intro g L' h₁ tk₁ env' A' he hA C' N' S' kp Q' E' ret
    clear he hA kp
    refine x_if (c := decide (sz = 4)) (Ts.cast (TsB.or (Ts.eqS (Ev.loc N' S' .hd) Ev.cstr) fun _ => TsB.or (Ts.eqS (Ev.loc N' S' .hd) Ev.cstr) fun _ => TsB.orN).ts ?_) (fun hc h2 tk2 s2 => ?_) fun hc h2 tk2 s2 => x_nil (Nx.go ?_)
    · cases hf <;> decide +kernel
    · refine x_ret Ev.int fun v h3 tk3 n3 s3 => ?_
      obtain ⟨t3, rfl⟩ := nt_int n3
      have : sz = 4 := of_decide_eq_true hc
      subst this
      exact ret _ _ _ _ _ _ ((S'.grow s2).grow s3) ⟨t3, rfl, rfl⟩
    · refine x_ret Ev.int fun v h3 tk3 n3 s3 => ?_
      obtain ⟨t3, rfl⟩ := nt_int n3
      have h4 : ¬ sz = 4 := of_decide_eq_false hc
      have : sz = 8 := by cases hf <;> first | rfl | exact absurd rfl h4
      subst this
      exact ret _ _ _ _ _ _ ((S'.grow s2).grow s3) ⟨t3, rfl, rfl⟩
  · rintro v h' tk' news' ⟨t, rfl, rfl⟩ S'
    exact k t h' tk' S'

/-- int.from_bytes(e, 'little') -/
theorem w_fromLE {xs : List UInt8} {kd : Nat} (N : FnEnv env L ns gl) (C : Cx w loose mean mg mb A env outer A₀ base h₀ L lv) (S : St h₀ L h ns vs news) (hx : Str.ofString "int" ∈ gl) (qe : ∀ h nw, St h₀ L h ns vs nw → Ev prog w A env h e (.bytes xs.toArray 0)) (hl : xs.length ≤ 8)
    (k : ∀ t h' tk', St h₀ L h' ns vs news → Q (.int (leV xs) t) ⟨h', gs, dr, tk', os⟩)
    (he : starEach [e, .Constant (.str (Str.ofString "little")) kd p3] env = (false, eval e env) :: starEach [(.Constant (.str (Str.ofString "little")) kd p3 : Expr)] env := by rfl)
    (hc : eval (.Call (.Attribute (.Name (Str.ofString "int") p1) (Str.ofString "from_bytes") p) [e, .Constant (.str (Str.ofString "little")) kd p3] [] p') env = (do
        let ov ← eval (.Name (Str.ofString "int") p1) env
        standAt p.atName
        let __x ← holding [ov] (getMethod ov (Str.ofString "from_bytes") (do return (← importBound (.Name (Str.ofString "int") p1) env).getD true))
        match __x with
          | (f, first) => callWith p' f first (backTo p' (starEach [e, .Constant (.str (Str.ofString "little")) kd p3] env)) []) := by rfl) :
    WP prog w A (eval (.Call (.Attribute (.Name (Str.ofString "int") p1) (Str.ofString "from_bytes") p) [e, .Constant (.str (Str.ofString "little")) kd p3] [] p') env) Q E ⟨h, gs, dr, tk, os⟩ := .mk (by
  refine MethodCall_ ((Ev.bi N C S (by k_is) hx PyProof.Rows.Boot.«int» (by decide) rfl).use h (stays_refl h) gs dr tk os _ _ fun v2 h2 tk2 n2 s2 => ?_).out hc
  obtain rfl := hv_ty _ n2
  have S2 := S.grow s2
  refine S2.elim fun m F back => ?_
  refine KFB.getm F S2.nw C.X (by k_is) fun x h3 F3 N3 l3 => ?_
  have S3 : St h₀ L h3 ns vs ((x, KFB.bound) :: news) := back _ _ F3 N3 (nd_cons S2.nd l3)
  refine KFB.callWith_bound S3.nw (.head _) ?_ he (by rfl)
  refine (sp_p (qe _ _ S3) (fun v4 h4 tk4 n4 s4 => ?_) he).out
  obtain ⟨t4, rfl⟩ := nt_bytes n4
  refine sp_p Ev.cstr (fun v5 h5 tk5 n5 s5 => ?_)
  obtain ⟨t5, rfl⟩ := nt_str n5
  have S5 := (S3.grow s4).grow s5
  refine sp_n ⟨KFB.at_of S5.nw (.head _), ?_⟩
  refine KFB.call_little S5.nw (.head _) rfl (by simpa [KBw.bInts] using hl) fun t6 k6 => ?_
  have e6 : KFB.value (KBw.bInts xs.toArray).reverse = (leV xs : Int) := by rw [← value_leV]; rfl
  rw [e6]
  exact k t6 h5 k6 S5.drop)
end

theorem leV_lt (xs : List UInt8) : leV xs < 256 ^ xs.length := by
  induction xs with
  | nil => decide
  | cons b r ih =>
    have : leV (b :: r) = leV r * 256 + b.toNat := rfl
    have hb := b.toNat_lt
    rw [this, List.length_cons, Nat.pow_succ]
    omega

section
variable {prog : Program} {w : World} {loose : List Str} {mean : ExcName → Option Value} {mg mb : Str → Option Value} {A A₀ : Around} {env cenv : Env} {outer : List Env} {base h₀ h : Heap} {L D : Addr} {lv : Nat} {ns gl : List Str} {vs vs1 vs2 : List (Option Value)} {news nw foot rest dl tl Kp : List (Addr × Obj)} {x y n1 n2 : Str} {v u : Value} {p p1 p2 p3 p4 p' np cpos : Pos} {kk : Nat}
variable {gs : Array GenState} {dr : Drawn} {tk : Nat} {os : OsState} {Q E : Value → Shared → Prop} {QF : Flow → Shared → Prop} {e e1 e2 i o a b : Expr} {pos : Pos} {elts : List Expr} {rst : List Stmt} {s : Shared}

theorem Ev.shlM1 {sz : Nat} (h0 : 0 < sz) (h1 : sz ≤ 8) (q : Ev prog w A env h e (.int sz 0)) : Ev prog w A env h (.BinOp (.Constant (.int 1) kk p1) .LShift (.BinOp (.BinOp (.Constant (.int 8) kk p2) .Mult e p3) .Sub (.Constant (.int 1) kk p4) p) p') (.int (2 ^ (8 * sz - 1)) 0) := by
  refine Ev.cast (Ev.shl Ev.int (Ev.sub (Ev.mul Ev.int q (mulOkL (by decide))) Ev.int) (by omega) (by omega) (by decide)) ?_
  have : ((8 : Int) * sz - 1).toNat = 8 * sz - 1 := by omega
  rw [this, Int.one_mul]
theorem Ev.shlM {sz : Nat} (h1 : sz ≤ 8) (q : Ev prog w A env h e (.int sz 0)) : Ev prog w A env h (.BinOp (.Constant (.int 1) kk p1) .LShift (.BinOp (.Constant (.int 8) kk p2) .Mult e p3) p') (.int (2 ^ (8 * sz)) 0) := by
  refine Ev.cast (Ev.shl Ev.int (Ev.mul Ev.int q (mulOkL (by decide))) (by omega) (by omega) (by decide)) ?_
  have : ((8 : Int) * sz).toNat = 8 * sz := by omega
  rw [this, Int.one_mul]

/-- _unpack -/
theorem unpack_ok {f : Str} {sz : Nat} {sg : Bool} {xs : List UInt8} {t tb : Tok} (C : Cx w loose mean mg mb A env outer A₀ base h₀ L (lv + 2)) (S : St h₀ L h ns vs rest) (kx : Kx base h₀ outer Kp) (hf : Fmt f sz sg) (hz : xs.length ≤ 16777216)
    (k : xs.length = sz → ∀ T t h' tk', St h₀ L h' ns vs ((T, tupO [.int (fval sg sz xs) t]) :: rest) → Q (.ref T) ⟨h', gs, dr, tk', os⟩)
    (kE : xs.length ≠ sz → ∀ e g₂ m h' tk', FrE h₀ L g₂ m rest → RX base g₂ (env :: outer) e (rest ++ Kp) h' → E (.ref e) ⟨h', gs, dr, tk', os⟩) :
    WP prog w A (PySem.call (.ref 78) [.str f t, .bytes xs.toArray tb]) Q E ⟨h, gs, dr, tk, os⟩ := by
  refine call_gx (RelE := fun nw => nw = [] ∧ xs.length ≠ sz) (cl := []) (foot := []) (rest := rest) (args := ⟨[.str f t, .bytes (xs.toArray) tb], []⟩) (binds := [(Str.ofString "format", .str f t), (Str.ofString "data", .bytes (xs.toArray) tb)]) (Rel := fun v nw => xs.length = sz ∧ ∃ T t, v = .ref T ∧ nw = [(T, tupO [.int (fval sg sz xs) t])]) (ns' := [Str.ofString "format", Str.ofString "data", Str.ofString "size", Str.ofString "value"]) (gl' := [Str.ofString "_calcsize", Str.ofString "len", Str.ofString "StructError", Str.ofString "int"]) C S (kx) (K_get C S (by k_is)) rfl (K_code C S (by k_is)) (BindsTo.of_eq rfl) (fnEnv_ofG rfl (by decide +kernel) (by decide +kernel) (by decide +kernel) (by decide +kernel)) (vs2 := fun _ => [some (.str f 0), some (.bytes (xs.toArray) 0), none, none]) (nw2 := fun L' => []) (fun L' => (.loc .hd (.loc (.tl .hd) .nil))) ?_ ?_ ?_
  · intro g L' h₁ tk₁ env' A' he hA C' N' S' kp kx' Q' E' ret rai
    clear hA kp
    refine x_asg (c_fn (a := 71) (Ev.glob N' C' S' (by k_is) (.head _) rfl) fun h2 tk2 s2 => sp_p ((Ev.loc N' S' .hd).grow s2) fun v3 h3 tk3 n3 s3 => sp_n ?_)
    obtain ⟨t3, rfl⟩ := nt_str n3
    have S3 := (S'.grow s2).grow s3
    refine ⟨fnAt_K C' S3 (by k_is), (calc_ok C' S3 hf fun t4 h4 tk4 S4 => ?_).out⟩
    refine st_loc N' S4 (.tl (.tl .hd)) fun h5 tk5 S5 => ?_
    refine x_if (Ts.ne (Ev.lenB (Ev.bi N' C' S5 (by k_is) (.tail _ (.head _)) PyProof.Rows.Boot.«len» (by decide) rfl) (Ev.loc N' S5 (.tl .hd)) (by rw [List.size_toArray]; omega)) (Ev.loc N' S5 (.tl (.tl .hd)))) (fun hc h6 tk6 s6 => ?_) fun hc h6 tk6 s6 => x_nil (Nx.go ?_)
    · have S6 := S5.grow s6
      have hne : xs.length ≠ sz := by exact_mod_cast (show (xs.length : Int) ≠ sz by simpa using hc)
      refine x_raise (c := 61) N' C' S6 (by k_is) (by kernel_rfl) (.tail _ (.tail _ (.head _))) Ev.cstr fun h7 h8 e8 tk8 s8 f8 => ?_
      exact rai.new e8 _ h7 h8 tk8 _ _ _ (S6.grow s8) ⟨rfl, hne⟩ (.inr (.inr rfl)) f8
    · have S6 := S5.grow s6
      have heq : xs.length = sz := by exact_mod_cast (show (xs.length : Int) = sz by simpa using hc)
      have hsz : sz ≤ 8 ∧ 0 < sz := by clear N' C' S' ret rai kx' heq hc S4 S5 S6; cases hf <;> decide
      have hv := leV_lt xs
      refine x_asg (w_fromLE N' C' S6 (.tail _ (.tail _ (.tail _ (.head _)))) (fun h nw S => Ev.loc N' S (.tl .hd)) (by omega) fun t7 h7 tk7 S7 => ?_)
      refine st_loc N' S7 (.tl (.tl (.tl .hd))) fun h8 tk8 S8 => ?_
      have fin : ∀ {p1 p2 p3 : Pos} {kk : Nat} {rst : List Stmt} (z : Int) h5 tk5, St g L' h5 [Str.ofString "format", Str.ofString "data", Str.ofString "size", Str.ofString "value"] [some (.str f 0), some (.bytes xs.toArray 0), some (.int sz 0), some (.int z 0)] [] → z = fval sg sz xs → WP prog w A' (execs (.Return (some (.Tuple [.Name (Str.ofString "value") p1] kk p2)) p3 :: rst) env') Q' E' ⟨h5, gs, dr, tk5, os⟩ := fun z h5 tk5 S5 hzv => x_retW (w_tuple S5 (.cons (Ev.loc N' S5 (.tl (.tl (.tl .hd)))) .nil) (by simp) fun T ws h6 tk6 e6 S6 st6 => by
        obtain ⟨x, rfl, hx⟩ := map_nt1 e6
        obtain ⟨t6, rfl⟩ := nt_int hx
        subst hzv
        exact ret _ _ _ _ _ _ S6 ⟨heq, T, t6, rfl, rfl⟩)
      refine x_if (c := sg && (decide (2 ^ (8 * sz - 1) ≤ (leV xs : Int)) && true)) (TsB.ts (TsB.and (Ts.cast (d := sg) (TsB.or (Ts.eqS (Ev.loc N' S8 .hd) Ev.cstr) fun _ => TsB.or (Ts.eqS (Ev.loc N' S8 .hd) Ev.cstr) fun _ => TsB.orN).ts (by cases hf <;> decide +kernel)) fun _ => TsB.and (Ts.ge (Ev.loc N' S8 (.tl (.tl (.tl .hd)))) (Ev.shlM1 hsz.2 hsz.1 (Ev.loc N' S8 (.tl (.tl .hd))))) fun _ => TsB.andN)) (fun hc h9 tk9 s9 => ?_) fun hc h9 tk9 s9 => ?_
      · have S9 := S8.grow s9
        rw [Bool.and_true] at hc
        obtain ⟨h1, h2⟩ := (Bool.and_eq_true ..).mp hc
        subst h1
        have h2 := of_decide_eq_true h2
        refine x_aug (z := (leV xs : Int) - 2 ^ (8 * sz)) N' S9 (.tl (.tl (.tl .hd))) (Ev.shlM hsz.1 (Ev.loc N' S9 (.tl (.tl .hd)))) (.tl (.tl (.tl .hd))) (fun t u s Q E q => isub_int q) fun h10 tk10 S10 => x_nil (Nx.go ?_)
        refine fin _ h10 tk10 S10 ?_
        unfold fval
        have h3 : 2 ^ (8 * sz - 1) ≤ leV xs := by exact_mod_cast h2
        rw [if_pos ⟨rfl, h3⟩]
      · have S9 := S8.grow s9
        refine x_nil (Nx.go (fin _ h9 tk9 S9 ?_))
        unfold fval
        rw [if_neg]
        rintro ⟨h1, h3⟩
        have h2 : (2 : Int) ^ (8 * sz - 1) ≤ (leV xs : Int) := by exact_mod_cast h3
        rw [Bool.and_true, h1, decide_eq_true h2] at hc
        cases hc
  · rintro v h' tk' nw ⟨hq, T, t, rfl, rfl⟩ S'
    exact k hq T t h' tk' S'
  · rintro e g₂ m h' tk' nw F ⟨rfl, hq⟩ R
    exact kE hq e g₂ m h' tk' F R
end
end Mine
end
section
open PySem PySem.Spec PySem.Calls PySem.W PyProof.Rows
open LCg (NsObj ns_obj fr_but)
set_option maxRecDepth 100000
set_option maxHeartbeats 4000000
set_option linter.unusedVariables false
namespace Mine

/-- a function of one int -/
def MC (prog : Program) (w : World) (lv : Nat) (g : Addr) (cv : Nat → Value) : Prop :=
  ∀ {loose : List Str} {mean : ExcName → Option Value} {mg mb : Str → Option Value} {A A₀ : Around} {env : Env} {outer : List Env} {base h₀ h : Heap} {L : Addr} {ns : List Str} {vs : List (Option Value)} {rest : List (Addr × Obj)}
    {gs : Array GenState} {dr : Drawn} {tk : Nat} {os : OsState} {Q E : Value → Shared → Prop} (n : Nat) (t : Tok), n < 2 ^ 64 →
    Cx w loose mean mg mb A env outer A₀ base h₀ L lv → St h₀ L h ns vs rest →
    (∀ v' h' tk', nt v' = cv n → St h₀ L h' ns vs rest → Q v' ⟨h', gs, dr, tk', os⟩) →
    WP prog w A (PySem.call (.ref g) [.int n t]) Q E ⟨h, gs, dr, tk, os⟩
/-- f is a function, wherever cl stands -/
def FA (prog : Program) (w : World) (lv : Nat) (f : Addr) (cl : List (Addr × Obj)) : Prop :=
  ∀ {loose : List Str} {mean : ExcName → Option Value} {mg mb : Str → Option Value} {A A₀ : Around} {env : Env} {outer : List Env} {base h₀ h : Heap} {L : Addr} {ns : List Str} {vs : List (Option Value)} {news : List (Addr × Obj)},
    Cx w loose mean mg mb A env outer A₀ base h₀ L lv → St h₀ L h ns vs news → (∀ q ∈ cl, h.get? q.1 = some q.2) → FnAt f h
theorem ES.up {prog : Program} {w : World} {lv lv' : Nat} {f : Addr} {cl : List (Addr × Obj)} {Ok : List UInt8 → Value → Prop} (q : ES prog w lv f cl Ok) (hl : lv ≤ lv') : ES prog w lv' f cl Ok := by
  intro loose mean mg mb A A₀ env outer base h₀ h L ns vs vt rest Kp gs dr tk os Q E full pre post oc dt val tb tp C
  exact q full pre post oc dt val tb tp (C.le hl)
theorem ES.ok {prog : Program} {w : World} {lv : Nat} {f : Addr} {cl : List (Addr × Obj)} {Ok Ok' : List UInt8 → Value → Prop} (q : ES prog w lv f cl Ok) (hl : ∀ o v, Ok' o v → Ok o v) : ES prog w lv f cl Ok' := by
  intro loose mean mg mb A A₀ env outer base h₀ h L ns vs vt rest Kp gs dr tk os Q E full pre post oc dt val tb tp C S V kx hcl ok
  exact q full pre post oc dt val tb tp C S V kx hcl (hl _ _ ok)

theorem and1 (n : Nat) : Builtin.bitAnd (n : Int) 1 = ((n % 2 : Nat) : Int) := by
  have := bitAnd_mask n 1
  simpa using this
theorem xor_m1 (n : Nat) : Builtin.bitXor (n : Int) (Builtin.bitNot 0) = -(n : Int) - 1 := by
  rw [bitXor_and, bitAnd_not, PyProof.Rows.bitAnd_zero, show Builtin.bitNot 0 = -1 by decide]
  omega

section
variable {prog : Program} {w : World} {loose : List Str} {mean : ExcName → Option Value} {mg mb : Str → Option Value} {A A₀ : Around} {env cenv : Env} {outer : List Env} {base h₀ h : Heap} {L D : Addr} {lv : Nat} {ns gl : List Str} {vs vs1 vs2 : List (Option Value)} {news nw foot rest dl tl Kp : List (Addr × Obj)} {x y n1 n2 : Str} {v u : Value} {p p1 p2 p3 p4 p' np cpos : Pos} {kk : Nat}
variable {gs : Array GenState} {dr : Drawn} {tk : Nat} {os : OsState} {Q E : Value → Shared → Prop} {QF : Flow → Shared → Prop} {e e1 e2 i o a b : Expr} {pos : Pos} {elts : List Expr} {rst : List Stmt} {s : Shared}

/-- ZigZagDecode -/
theorem zz_ok : MC prog w 2 92 (fun n => .int (zz n) 0) := by
  intro loose mean mg mb A A₀ env outer base h₀ h L ns vs rest gs dr tk os Q E n t hn C S k
  refine call_fn (foot := []) (rest := rest) (args := ⟨[.int n t], []⟩) (binds := [(Str.ofString "value", .int n t)]) (Rel := fun v nw => nt v = .int (zz n) 0 ∧ nw = []) (ns' := [Str.ofString "value"]) (gl' := []) (vs' := [some (.int n 0)]) C S (K_get C S (by k_is)) rfl (K_code C S (by k_is)) (BindsTo.of_eq rfl) (locs rfl) (by decide)
    (fnEnv_of rfl (by decide +kernel) (by decide +kernel) (by decide +kernel) (by decide +kernel)) (hvs_of (ps := [Str.ofString "value"]) (args := [.int n t]) (by decide +kernel) rfl []) ?_ ?_
  · intro g L' h₁ tk₁ env' A' he hA C' N' S' kp Q' E' ret
    clear he hA kp
    refine x_if (Ts.not (Ts.int (Ev.cast (Ev.and (Ev.loc N' S' .hd) Ev.int) (by rw [and1])))) (fun hc h2 tk2 s2 => ?_) fun hc h2 tk2 s2 => x_nil (Nx.go ?_)
    · refine x_ret (Ev.shr (Ev.loc N' (S'.grow s2) .hd) Ev.int (by decide)) fun v h3 tk3 n3 s3 => ?_
      refine ret _ _ _ _ _ _ ((S'.grow s2).grow s3) ⟨?_, rfl⟩
      rw [n3]
      have h0 : n % 2 = 0 := by
        have : ((n % 2 : Nat) : Int) = 0 := by simpa using hc
        omega
      unfold zz
      rw [if_pos h0]
      congr 1
    · refine x_ret (Ev.xor (Ev.shr (Ev.loc N' (S'.grow s2) .hd) Ev.int (by decide)) (Ev.inv Ev.int)) fun v h3 tk3 n3 s3 => ?_
      refine ret _ _ _ _ _ _ ((S'.grow s2).grow s3) ⟨?_, rfl⟩
      rw [n3]
      have h0 : ¬ n % 2 = 0 := by
        have : ¬ ((n % 2 : Nat) : Int) = 0 := by simpa using hc
        omega
      unfold zz
      rw [if_neg h0]
      have : (n : Int) / 2 ^ (Int.toNat 1) = ((n / 2 : Nat) : Int) := by simp
      rw [this, xor_m1]
  · rintro v h' tk' nw ⟨hv, rfl⟩ S'
    exact k v h' tk' hv S'

/-- _BoolValue -/
theorem bv_ok : MC prog w 2 279 (fun n => .bool (n != 0)) := by
  intro loose mean mg mb A A₀ env outer base h₀ h L ns vs rest gs dr tk os Q E n t hn C S k
  refine call_fn (foot := []) (rest := rest) (args := ⟨[.int n t], []⟩) (binds := [(Str.ofString "value", .int n t)]) (Rel := fun v nw => nt v = .bool (n != 0) ∧ nw = []) (ns' := [Str.ofString "value"]) (gl' := [Str.ofString "bool"]) (vs' := [some (.int n 0)]) C S (K_get C S (by k_is)) rfl (K_code C S (by k_is)) (BindsTo.of_eq rfl) (locs rfl) (by decide)
    (fnEnv_of rfl (by decide +kernel) (by decide +kernel) (by decide +kernel) (by decide +kernel)) (hvs_of (ps := [Str.ofString "value"]) (args := [.int n t]) (by decide +kernel) rfl []) ?_ ?_
  · intro g L' h₁ tk₁ env' A' he hA C' N' S' kp Q' E' ret
    clear he hA kp
    refine x_retW (c_ty (id := "bool") (Ev.bi N' C' S' (by k_is) (.head _) PyProof.Rows.Boot.«bool» (by decide) rfl) fun h2 tk2 s2 => sp_p ((Ev.loc N' S' .hd).grow s2) fun v3 h3 tk3 n3 s3 => sp_n ?_)
    obtain ⟨t3, rfl⟩ := nt_int n3
    have S3 := (S'.grow s2).grow s3
    refine call_bool_int ?_
    refine ret _ _ _ _ _ _ S3 ⟨?_, rfl⟩
    show Value.bool ((n : Int) != 0) = _
    congr 1
    cases n <;> rfl
  · rintro v h' tk' nw ⟨hv, rfl⟩ S'
    exact k v h' tk' hv S'

/-- (f(e), y) -/
theorem w_pairW (q : WP prog w A (eval a env) (fun v s₁ => ∃ h tk vs news u, s₁ = ⟨h, gs, dr, tk, os⟩ ∧ St h₀ L h ns vs news ∧ Ev prog w A env h b u ∧ ∀ T u' h' tk', nt u' = u → St h₀ L h' ns vs ((T, tupO [v, u']) :: news) → Q (.ref T) ⟨h', gs, dr, tk', os⟩) E s)
    (h1 : starEach [a, b] env = (false, eval a env) :: starEach [b] env := by rfl) (h2 : starEach [b] env = (false, eval b env) :: starEach [] env := by rfl) :
    WP prog w A (eval (.Tuple [a, b] kk p) env) Q E s := .mk (by
  (with_reducible refine Tuple_ (sp_i (WP.mono q fun v s₁ h₁ => ?_) h1).out)
  obtain ⟨h, tk, vs, news, u, rfl, S, qb, k⟩ := h₁
  refine (sp_p qb (fun u' h3 tk3 n3 s3 => sp_n ?_) h2).out
  refine wpAny_newObj_type ?_ (by size_fits)
  exact k _ u' _ _ n3 ((S.grow s3).push _))
end
end Mine
end
section
open PySem PySem.Spec PySem.Calls PySem.W PyProof.Rows
open LCg (NsObj ns_obj fr_but)
set_option maxRecDepth 100000
set_option maxHeartbeats 4000000
set_option linter.unusedVariables false
namespace Mine
/-- a value's falsehood -/
def isDef : Value → Bool
  | .int n _ => n == 0
  | .bool b => !b
  | .str s _ => s.length == 0
  | .bytes b _ => b.size == 0
  | _ => false
theorem isDef_nt (v : Value) : isDef (nt v) = isDef v := by cases v <;> rfl
theorem nt_nt (v : Value) : nt (nt v) = nt v := by cases v <;> rfl
/-- an int or a bool -/
def Num (v : Value) : Prop := (∃ n t, v = .int n t) ∨ ∃ b, v = .bool b
theorem Num.nt {v v' : Value} (h : Num v) (e : nt v' = nt v) : Num v' := by
  rcases h with ⟨n, t, rfl⟩ | ⟨b, rfl⟩
  · obtain ⟨t', rfl⟩ := nt_int e; exact .inl ⟨_, _, rfl⟩
  · obtain rfl := nt_bool e; exact .inr ⟨_, rfl⟩

section
variable {prog : Program} {w : World} {loose : List Str} {mean : ExcName → Option Value} {mg mb : Str → Option Value} {A A₀ : Around} {env cenv : Env} {outer : List Env} {base h₀ h : Heap} {L D : Addr} {lv : Nat} {ns gl : List Str} {vs vs1 vs2 : List (Option Value)} {news nw foot rest dl tl Kp cl : List (Addr × Obj)} {x y n1 n2 : Str} {v u : Value} {p p1 p2 p3 p4 p' np cpos : Pos} {kk : Nat}
variable {gs : Array GenState} {dr : Drawn} {tk : Nat} {os : OsState} {Q E : Value → Shared → Prop} {QB : Bool → Shared → Prop} {QF : Flow → Shared → Prop} {e e1 e2 i o a b : Expr} {pos : Pos} {elts : List Expr} {rst : List Stmt} {s : Shared} {c : Bool}

theorem w_tplain (q : WP prog w A (eval e env) (fun v s₁ => WP prog w A (truthy v) QB E s₁) E s) (he : ∀ whole, PySem.isTrue e env whole = (do let v ← whole; standAt e.pos; holding [v] (truthy v)) := by intro _; rfl) : WP prog w A (PySem.isTrue e env (eval e env)) QB E s :=
  .mk (by with_reducible exact isTrue_plain (wpAny_mono q.out (fun v s₁ h => h.out) fun _ _ x => x) (he _))
theorem truthy_num {v' : Value} (hv : Num v) (hn : nt v' = v) (z : ∀ tk', QB (!isDef v) ⟨h, gs, dr, tk', os⟩) : wpAny (model prog w) A (truthy v') QB E ⟨h, gs, dr, tk, os⟩ := by
  rcases hv with ⟨n, t, rfl⟩ | ⟨b, rfl⟩
  · cases v' <;> simp only [Mine.nt, Value.int.injEq, reduceCtorEq] at hn
    obtain ⟨rfl, _⟩ := hn
    have e : ∀ n : Int, (!isDef (.int n t)) = (n != 0) := fun n => rfl
    rw [e] at z
    with_reducible exact truthy_int (z _)
  · obtain rfl := nt_bool hn
    have e : (!isDef (.bool b)) = b := by simp [isDef]
    rw [e] at z
    with_reducible exact wpAny_truthy_bool (z _)
theorem Ts.num (q : Ev prog w A env h e v) (hv : Num v) (he : ∀ whole, PySem.isTrue e env whole = (do let v ← whole; standAt e.pos; holding [v] (truthy v)) := by intro _; rfl) : Ts prog w A env h e (!isDef v) :=
  Ts.plain q (fun v' h1 gs dr tk os Q E _ e1 z => .mk (truthy_num hv e1 fun tk' => z _ tk' (stays_refl h1))) he
theorem Ev.notN (q : Ev prog w A env h e v) (hv : Num v) : Ev prog w A env h (.UnaryOp .Not e p) (.bool (isDef v)) := fun h1 s1 gs dr tk os Q E k =>
  .mk (by
  with_reducible refine wpAny_UnaryOp (q.use h1 s1 gs dr tk os _ _ fun v' h2 tk' e1 s2 => ?_).out
  refine not_value (truthy_num hv e1 fun tk3 => ?_)
  rw [Bool.not_not]
  exact k _ _ _ rfl s2)

/-- IsDefaultScalarValue -/
theorem isdef_ok (hv : Num v) (C : Cx w loose mean mg mb A env outer A₀ base h₀ L (lv + 1)) (S : St h₀ L h ns vs rest)
    (k : ∀ h' tk', St h₀ L h' ns vs rest → Q (.bool (isDef v)) ⟨h', gs, dr, tk', os⟩) : WP prog w A (PySem.call (.ref 121) [v]) Q E ⟨h, gs, dr, tk, os⟩ := by
  refine call_fn (foot := []) (rest := rest) (args := ⟨[v], []⟩) (binds := [(Str.ofString "value", v)]) (Rel := fun u nw => u = .bool (isDef v) ∧ nw = []) (ns' := [Str.ofString "value"]) (gl' := []) (vs' := [some (nt (v))]) C S (K_get C S (by k_is)) rfl (K_code C S (by k_is)) (BindsTo.of_eq rfl) (locs rfl) (by decide)
    (fnEnv_of rfl (by decide +kernel) (by decide +kernel) (by decide +kernel) (by decide +kernel)) (hvs_of (ps := [Str.ofString "value"]) (args := [v]) (by decide +kernel) rfl []) ?_ ?_
  · intro g L' h₁ tk₁ env' A' he hA C' N' S' kp Q' E' ret
    clear he hA kp
    refine x_ret (Ev.notN (Ev.loc N' S' .hd) (v := nt v) (hv.nt (nt_nt v))) fun u h3 tk3 n3 s3 => ?_
    obtain rfl := nt_bool n3
    rw [isDef_nt]
    exact ret _ _ _ _ _ _ (S'.grow s3) ⟨rfl, rfl⟩
  · rintro u h' tk' nw ⟨rfl, rfl⟩ S'
    exact k h' tk' S'
end
end Mine
end
section
open PySem PySem.Spec PySem.Calls PySem.W PyProof.Rows
open LCg (NsObj ns_obj fr_but)
set_option maxRecDepth 100000
set_option maxHeartbeats 4000000
set_option linter.unusedVariables false
namespace Mine

/-- cl stands, apart from ft -/
abbrev Stand (cl ft : List (Addr × Obj)) (h : Heap) : Prop := ∀ q ∈ cl, h.get? q.1 = some q.2 ∧ ∀ r ∈ ft, r.1 ≠ q.1
/-- a field's decoder at d: one value -/
def FD0 (prog : Program) (w : World) (lv : Nat) (d : Addr) (cl : List (Addr × Obj)) (key : Int) (clr : Bool) (Ok : List UInt8 → Value → Prop) : Prop :=
  ∀ {loose : List Str} {mean : ExcName → Option Value} {mg mb : Str → Option Value} {A A₀ : Around} {env : Env} {outer : List Env} {base h₀ h : Heap} {L : Addr} {ns : List Str} {vs : List (Option Value)} {vt rest Kp : List (Addr × Obj)}
    {gs : Array GenState} {dr : Drawn} {tk : Nat} {os : OsState} {Q E : Value → Shared → Prop} (full : Bool) (pre post oc dt : List UInt8) (val : Value) (fin : Nat) (D : Addr) (od : Obj) (kvs : List (Int × Value)) (tb tp te : Tok),
    Cx w loose mean mg mb A env outer A₀ base h₀ L lv → St h₀ L h ns vs ((D, od) :: vt ++ rest) → VTs vt → Kx base h₀ outer Kp → Stand cl ((D, od) :: vt) h → od.IsDictOf (intKind prog w) kvs → (kvs = [] ∨ ∃ v, kvs = [(key, v)]) → (D == sysModules) = false →
    Ok oc val → Dt full post oc dt → (pre ++ dt).length ≤ 16777216 → fin ≤ 16777216 → (full = false → fin = (pre ++ dt).length) →
    (full = true → pre.length + oc.length ≤ fin → ∀ v' t od' h' tk' vt', nt v' = nt val → VTs vt' → od'.IsDictOf (intKind prog w) (if clr && isDef val then [] else [(key, v')]) → St h₀ L h' ns vs ((D, od') :: vt' ++ rest) → Q (.int (pre.length + oc.length : Nat) t) ⟨h', gs, dr, tk', os⟩) →
    (full = false ∨ fin < pre.length + oc.length → ∀ e g₂ m h' tk' vt', FrE h₀ L g₂ m ((D, od) :: vt' ++ rest) → VTs vt' → RX base g₂ (env :: outer) e ((D, od) :: vt' ++ (rest ++ Kp)) h' → E (.ref e) ⟨h', gs, dr, tk', os⟩) →
    WP prog w A (PySem.call (.ref d) [.bytes (pre ++ dt).toArray tb, .int pre.length tp, .int fin te, .none, .ref D]) Q E ⟨h, gs, dr, tk, os⟩

/-- the table with the field's list, its items -/
def TLm (prog : Program) (w : World) (D : Addr) (key : Int) (its : List Value) (tl : List (Addr × Obj)) : Prop :=
  ∃ od l n, tl = [(D, od), (l, listOf its.toArray n)] ∧ od.IsDictOf (intKind prog w) [(key, .ref l)]
/-- the table, the list there or not -/
def TLs (prog : Program) (w : World) (D : Addr) (key : Int) (its : List Value) (tl : List (Addr × Obj)) : Prop :=
  (its = [] ∧ ∃ od, tl = [(D, od)] ∧ od.IsDictOf (intKind prog w) []) ∨ TLm prog w D key its tl
def joinB (sep : List UInt8) : List (List UInt8) → List UInt8
  | [] => []
  | [x] => x
  | x :: y :: r => x ++ sep ++ joinB sep (y :: r)
/-- tables stay tables -/
def GT (a b : List (Addr × Obj)) : Prop := ∀ P ps, (P, tabObj ps) ∈ a → ∃ ps', (P, tabObj ps') ∈ b
theorem GT.sub {a b : List (Addr × Obj)} (h : ∀ q ∈ a, q ∈ b) : GT a b := fun P ps hm => ⟨ps, h _ hm⟩
theorem GT.trans {a b c : List (Addr × Obj)} (h : GT a b) (h' : GT b c) : GT a c := fun P ps hm => (h P ps hm).elim fun ps' hm' => h' P ps' hm'
theorem GT.sel {P : Addr} {ps ps' : Array Value} {a b : List (Addr × Obj)} (sel : Sel P (tabObj ps) (tabObj ps') a b) : GT a b := by
  induction sel with
  | hd => 
    intro P2 ps2 hm
    rcases List.mem_cons.mp hm with e | hm
    · cases e; exact ⟨_, .head _⟩
    · exact ⟨_, .tail _ hm⟩
  | tl _ ih =>
    intro P2 ps2 hm
    rcases List.mem_cons.mp hm with e | hm
    · exact ⟨ps2, e ▸ .head _⟩
    · obtain ⟨p3, h3⟩ := ih P2 ps2 hm
      exact ⟨p3, .tail _ h3⟩

/-- a field's decoder at d: several, each behind its tag -/
def FD1 (prog : Program) (w : World) (lv : Nat) (d : Addr) (cl : List (Addr × Obj)) (key : Int) (tag : List UInt8) (Ok : List UInt8 → Value → Prop) : Prop :=
  ∀ {loose : List Str} {mean : ExcName → Option Value} {mg mb : Str → Option Value} {A A₀ : Around} {env : Env} {outer : List Env} {base h₀ h : Heap} {L : Addr} {ns : List Str} {vs : List (Option Value)} {vt rest Kp : List (Addr × Obj)}
    {gs : Array GenState} {dr : Drawn} {tk : Nat} {os : OsState} {Q E : Value → Shared → Prop} (full : Bool) (pre post dt : List UInt8) (pieces : List (List UInt8 × Value)) (fin : Nat) (D : Addr) (its : List Value) (tl : List (Addr × Obj)) (tb tp te : Tok),
    Cx w loose mean mg mb A env outer A₀ base h₀ L lv → St h₀ L h ns vs (tl ++ (vt ++ rest)) → VTs vt → Kx base h₀ outer Kp → Stand cl (tl ++ vt) h → TLs prog w D key its tl → (D == sysModules) = false →
    pieces ≠ [] → (∀ p ∈ pieces, Ok p.1 p.2 ∧ 0 < p.1.length) → Dt full post (joinB tag (pieces.map (·.1))) dt → (pre ++ dt).length ≤ 16777216 → fin ≤ 16777216 → its.length + pieces.length ≤ 16777216 →
    (full = false ∨ fin < pre.length + (joinB tag (pieces.map (·.1))).length → ∃ p, pieces = [p]) → (full = false → fin = (pre ++ dt).length) →
    (full = true → fin ≤ pre.length + (joinB tag (pieces.map (·.1))).length ∨ post.take tag.length ≠ tag) →
    (full = true → pre.length + (joinB tag (pieces.map (·.1))).length ≤ fin → ∀ vals t h' tk' vt' tl', vals.map nt = pieces.map (fun p => nt p.2) → VTs vt' → TLm prog w D key (its ++ vals) tl' → St h₀ L h' ns vs (tl' ++ (vt' ++ rest)) → Q (.int (pre.length + (joinB tag (pieces.map (·.1))).length : Nat) t) ⟨h', gs, dr, tk', os⟩) →
    (full = false ∨ fin < pre.length + (joinB tag (pieces.map (·.1))).length → ∀ e g₂ m h' tk' vt' tl' its', FrE h₀ L g₂ m (tl' ++ (vt' ++ rest)) → VTs vt' → (full = false → its' = its) → TLm prog w D key its' tl' → RX base g₂ (env :: outer) e (tl' ++ (vt' ++ (rest ++ Kp))) h' → E (.ref e) ⟨h', gs, dr, tk', os⟩) →
    WP prog w A (PySem.call (.ref d) [.bytes (pre ++ dt).toArray tb, .int pre.length tp, .int fin te, .none, .ref D]) Q E ⟨h, gs, dr, tk, os⟩

/-- a field's decoder at d: a packed run -/
def FD2 (prog : Program) (w : World) (lv : Nat) (d : Addr) (cl : List (Addr × Obj)) (key : Int) (Ok : List UInt8 → Value → Prop) : Prop :=
  ∀ {loose : List Str} {mean : ExcName → Option Value} {mg mb : Str → Option Value} {A A₀ : Around} {env : Env} {outer : List Env} {base h₀ h : Heap} {L : Addr} {ns : List Str} {vs : List (Option Value)} {vt rest Kp : List (Addr × Obj)}
    {gs : Array GenState} {dr : Drawn} {tk : Nat} {os : OsState} {Q E : Value → Shared → Prop} (full : Bool) (pre post dt lo : List UInt8) (raw : Nat) (pieces : List (List UInt8 × Value)) (fin : Nat) (D : Addr) (its : List Value) (tl : List (Addr × Obj)) (tb tp te : Tok),
    Cx w loose mean mg mb A env outer A₀ base h₀ L lv → St h₀ L h ns vs (tl ++ (vt ++ rest)) → VTs vt → Kx base h₀ outer Kp → Stand cl (tl ++ vt) h → TLs prog w D key its tl → (D == sysModules) = false →
    (∀ p ∈ pieces, Ok p.1 p.2 ∧ 0 < p.1.length) → VOct lo raw → lo.length ≤ 10 → raw ≤ 16777216 → Dt full post (lo ++ pieces.flatMap (·.1)) dt → (pre ++ dt).length ≤ 16777216 → fin ≤ 16777216 → its.length + pieces.length ≤ 16777216 →
    (full = false → fin < pre.length + lo.length + raw) →
    (raw = (pieces.flatMap (·.1)).length ∨ (raw + 1 = (pieces.flatMap (·.1)).length ∧ ∃ init last, pieces = init ++ [last] ∧ 2 ≤ last.1.length)) →
    (raw = (pieces.flatMap (·.1)).length → full = true → pre.length + lo.length + raw ≤ fin → ∀ vals t h' tk' vt' tl', vals.map nt = pieces.map (fun p => nt p.2) → VTs vt' → TLm prog w D key (its ++ vals) tl' → St h₀ L h' ns vs (tl' ++ (vt' ++ rest)) → Q (.int (pre.length + lo.length + raw : Nat) t) ⟨h', gs, dr, tk', os⟩) →
    (fin < pre.length + lo.length + raw → ∀ e g₂ m h' tk' vt' tl', FrE h₀ L g₂ m (tl' ++ (vt' ++ rest)) → VTs vt' → TLm prog w D key its tl' → RX base g₂ (env :: outer) e (tl' ++ (vt' ++ (rest ++ Kp))) h' → E (.ref e) ⟨h', gs, dr, tk', os⟩) →
    (raw + 1 = (pieces.flatMap (·.1)).length → ∀ e g₂ m h' tk' vt' tl' init last vals, FrE h₀ L g₂ m (tl' ++ (vt' ++ rest)) → VTs vt' → pieces = init ++ [last] → vals.map nt = init.map (fun p => nt p.2) → TLm prog w D key (its ++ vals) tl' → RX base g₂ (env :: outer) e (tl' ++ (vt' ++ (rest ++ Kp))) h' → E (.ref e) ⟨h', gs, dr, tk', os⟩) →
    WP prog w A (PySem.call (.ref d) [.bytes (pre ++ dt).toArray tb, .int pre.length tp, .int fin te, .none, .ref D]) Q E ⟨h, gs, dr, tk, os⟩

/-- a field's decoder -/
def FD (prog : Program) (w : World) (md : Nat) (d : Addr) (cl : List (Addr × Obj)) (key : Int) (clr : Bool) (tag : List UInt8) (Ok : List UInt8 → Value → Prop) : Prop :=
  match md with
  | 0 => FD0 prog w 8 d cl key clr Ok
  | 1 => FD1 prog w 8 d cl key tag Ok
  | _ => FD2 prog w 8 d cl key Ok

/-- the maker of a field's decoder, at f -/
structure SPC (prog : Program) (w : World) (md : Nat) (f : Addr) (sl : List (Addr × Obj)) (wt : Nat) (Ok : List UInt8 → Value → Prop) : Prop where
  fn : ∀ h : Heap, (∀ q ∈ sl, h.get? q.1 = some q.2) → FnAt f h
  run : ∀ {loose : List Str} {mean : ExcName → Option Value} {mg mb : Str → Option Value} {A A₀ : Around} {env : Env} {outer : List Env} {base h₀ h : Heap} {L : Addr} {ns : List Str} {vs : List (Option Value)} {vt rest Kp : List (Addr × Obj)}
    {gs : Array GenState} {dr : Drawn} {tk : Nat} {os : OsState} {Q E : Value → Shared → Prop} (num : Nat) (clr : Bool) (t1 t2 : Tok), num < 2 ^ 30 →
    Cx w loose mean mg mb A env outer A₀ base h₀ L 8 → St h₀ L h ns vs (sl ++ ((102, tabObj #[]) :: rest)) →
    (∀ d dl h' tk', (∀ h : Heap, (∀ q ∈ dl, h.get? q.1 = some q.2) → FnAt d h) → FD prog w md d dl num clr (vB (8 * num + wt)) Ok → GT (sl ++ [(102, tabObj #[])]) dl → St h₀ L h' ns vs (dl ++ rest) → Q (.ref d) ⟨h', gs, dr, tk', os⟩) →
    WP prog w A (PySem.call (.ref f) [.int num t1, .bool (decide (0 < md)), .bool (md == 2), .int num t2, .ref 383, .bool clr]) Q E ⟨h, gs, dr, tk, os⟩

section
variable {prog : Program} {w : World} {loose : List Str} {mean : ExcName → Option Value} {mg mb : Str → Option Value} {A A₀ : Around} {env cenv : Env} {outer : List Env} {base h₀ h : Heap} {L D : Addr} {lv : Nat} {ns gl : List Str} {vs vs1 vs2 : List (Option Value)} {news nw foot rest dl tl Kp cl : List (Addr × Obj)} {x y n1 n2 : Str} {v u : Value} {p p1 p2 p3 p4 p' np cpos : Pos} {kk : Nat}
variable {gs : Array GenState} {dr : Drawn} {tk : Nat} {os : OsState} {Q E : Value → Shared → Prop} {QF : Flow → Shared → Prop} {e e1 e2 i o a b : Expr} {pos : Pos} {elts : List Expr} {rst : List Stmt} {s : Shared}

theorem St.keep (S : St h₀ L h ns vs news) {a : Addr} {o : Obj} (e : h₀.get? a = some o) : h.get? a = some o := S.elim fun m F _ => F.keep _ _ e
theorem sub_swap {a : Addr × Obj} {b r : List (Addr × Obj)} : ∀ q ∈ a :: b ++ r, q ∈ b ++ ([a] ++ r) := by
  intro q hq
  simp only [List.mem_append, List.mem_cons, List.not_mem_nil, or_false] at hq ⊢
  rcases hq with (hq | hq) | hq <;> simp [hq]

end
end Mine
end
section
open PySem PySem.Spec PySem.Calls PySem.W PyProof.Rows
open LCg (NsObj ns_obj fr_but)
set_option maxRecDepth 100000
set_option maxHeartbeats 4000000
set_option linter.unusedVariables false
namespace Mine

section
variable {prog : Program} {w : World} {loose : List Str} {mean : ExcName → Option Value} {mg mb : Str → Option Value} {A A₀ : Around} {env cenv : Env} {outer : List Env} {base h₀ h : Heap} {L D cK cN : Addr} {lv num : Nat} {ns gl : List Str} {vs vs1 vs2 : List (Option Value)} {news nw foot rest dl tl Kp cl : List (Addr × Obj)} {x y n1 n2 : Str} {v u : Value} {p p1 p2 p3 p4 p5 p6 p7 p8 p9 pa pb pc pd pe pf p' np cpos : Pos} {kk : Nat}
variable {gs : Array GenState} {dr : Drawn} {tk : Nat} {os : OsState} {Q E : Value → Shared → Prop} {QB : Bool → Shared → Prop} {QF : Flow → Shared → Prop} {e e1 e2 i o a b : Expr} {pos : Pos} {elts : List Expr} {rst : List Stmt} {s : Shared} {c : Bool} {its : List Value} {t2 : Tok}

/-- value = field_dict.get(key); if value is None: value = field_dict.setdefault(key, new_default(message)) -/
theorem x_getlist {vsv : Option Value → List (Option Value)} (N : FnEnv env L ns gl) (C : Cx w loose mean mg mb A env outer A₀ base h₀ L (lv + 1)) (S : St h₀ L h ns (vsv none) (tl ++ rest)) (Tl : TLs prog w D num its tl) (lo : (D == sysModules) = false)
    (pD : ∀ u, Pk ns (vsv u) (Str.ofString "field_dict") (.ref D)) (pM : ∀ u, Pk ns (vsv u) (Str.ofString "message") .none) (pV : ∀ u u', Pt ns (vsv u) (Str.ofString "value") u' (vsv u')) (pW : ∀ u, Pk ns (vsv (some u)) (Str.ofString "value") u)
    (ceK : CE env (Str.ofString "key") cK) (gK : h₀.get? cK = some (cellO (some (.int num t2)))) (ceN : CE env (Str.ofString "new_default") cN) (gN : h₀.get? cN = some (cellO (some (.ref 383))))
    (k : ∀ od l n h' tk', od.IsDictOf (intKind prog w) [((num : Int), .ref l)] → St h₀ L h' ns (vsv (some (.ref l))) ((D, od) :: (l, listOf its.toArray n) :: rest) → WP prog w A (execs rst env) QF E ⟨h', gs, dr, tk', os⟩)
    (hcG : eval (.Call (.Attribute (.Name (Str.ofString "field_dict") p2) (Str.ofString "get") p3) [.Name (Str.ofString "key") p4] [] p5) env = (do
        let ov ← eval (.Name (Str.ofString "field_dict") p2) env
        standAt p3.atName
        let __x ← holding [ov] (getMethod ov (Str.ofString "get") (do return (← importBound (.Name (Str.ofString "field_dict") p2) env).getD true))
        match __x with
          | (f, first) => callWith p5 f first (backTo p5 (starEach [.Name (Str.ofString "key") p4] env)) []) := by rfl)
    (hcS : eval (.Call (.Attribute (.Name (Str.ofString "field_dict") pb) (Str.ofString "setdefault") pc) [.Name (Str.ofString "key") pd, .Call (.Name (Str.ofString "new_default") pe) [.Name (Str.ofString "message") pf] [] np] [] cpos) env = (do
        let ov ← eval (.Name (Str.ofString "field_dict") pb) env
        standAt pc.atName
        let __x ← holding [ov] (getMethod ov (Str.ofString "setdefault") (do return (← importBound (.Name (Str.ofString "field_dict") pb) env).getD true))
        match __x with
          | (f, first) => callWith cpos f first (backTo cpos (starEach [.Name (Str.ofString "key") pd, .Call (.Name (Str.ofString "new_default") pe) [.Name (Str.ofString "message") pf] [] np] env)) []) := by rfl) :
    WP prog w A (execs (.Assign [.Name (Str.ofString "value") p1] (.Call (.Attribute (.Name (Str.ofString "field_dict") p2) (Str.ofString "get") p3) [.Name (Str.ofString "key") p4] [] p5) p6 ::
      .If (.Compare (.Name (Str.ofString "value") p7) [.Is] [.Constant .none kk p8] p9)
        [.Assign [.Name (Str.ofString "value") pa] (.Call (.Attribute (.Name (Str.ofString "field_dict") pb) (Str.ofString "setdefault") pc) [.Name (Str.ofString "key") pd, .Call (.Name (Str.ofString "new_default") pe) [.Name (Str.ofString "message") pf] [] np] [] cpos) p] [] p' :: rst) env) QF E ⟨h, gs, dr, tk, os⟩ := by
  rcases Tl with ⟨rfl, od, rfl, hod⟩ | ⟨od, l, n, rfl, hod⟩
  · refine x_asg (w_dget S (.head _) hod lo (Ev.loc N S (pD _)) (Ev.cellH N.kind ceK (S.keep gK) rfl) Option.none (by simp [valueAt]) (fun h2 tk2 s2 => ?_) (by rfl) hcG)
    refine st_loc N (S.grow s2) (pV _ (some .none)) fun h3 tk3 S3 => ?_
    refine x_if (Ts.isNone (Ev.loc N S3 (pW _)) (.inl rfl) Ev.cnone) (fun _ h4 tk4 s4 => ?_) fun hc => absurd hc (by decide)
    have S4 := S3.grow s4
    refine x_asg (w_meth (Ev.use' (Ev.loc N S4 (pD _)) fun ov h5 tk5 n5 s5 => ?_) (by rfl) rfl (by rfl) hcS)
    obtain rfl := nt_ref n5
    have S5 := S4.grow s5
    refine ⟨"dict.setdefault", [.ref D], kob_method PySem.F.slot_dict_setdefault PySem.F.type_dict_setdefault S5.nw (.head _) hod ⟨rfl, rfl⟩, ?_⟩
    refine sp_p (Ev.cellH N.kind ceK (S5.keep gK) rfl) fun v6 h6 tk6 n6 s6 => ?_
    obtain ⟨t6, rfl⟩ := nt_int n6
    have S6 := S5.grow s6
    refine sp_i (c_fn (a := 383) (Ev.cellH N.kind ceN (S6.keep gN) rfl) fun h7 tk7 s7 => sp_p ((Ev.loc N S6 (pM _)).grow s7) fun v8 h8 tk8 n8 s8 => sp_n ?_)
    obtain rfl := nt_none n8
    have S8 := (S6.grow s7).grow s8
    refine ⟨fnAt_K C S8 (by k_is), (new_ok C S8 fun l h9 tk9 S9 => (sp_n ?_).out).out⟩
    refine c_setdef S9 (fun o' => .tl .hd) hod lo fun h10 od2 ho2 S10 => ?_
    refine st_loc N S10 (pV _ (some (.ref l))) fun h11 tk11 S11 => x_nil (Nx.go ?_)
    exact k od2 l 0 h11 tk11 ho2 (S11.re (List.Perm.swap ..))
  · refine x_asg (w_dget S (.head _) hod lo (Ev.loc N S (pD _)) (Ev.cellH N.kind ceK (S.keep gK) rfl) (some (.ref l)) (by simp [valueAt]) (fun h2 tk2 s2 => ?_) (by rfl) hcG)
    refine st_loc N (S.grow s2) (pV _ (some (.ref l))) fun h3 tk3 S3 => ?_
    refine x_if (Ts.isNone (Ev.loc N S3 (pW _)) (.inr ⟨l, rfl⟩) Ev.cnone) (fun hc => absurd hc (by simp)) fun _ h4 tk4 s4 => x_nil (Nx.go ?_)
    exact k od l n h4 tk4 hod (S3.grow s4)
end
end Mine
end
section
open PySem PySem.Spec PySem.Calls PySem.W PyProof.Rows
open LCg (NsObj ns_obj fr_but)
set_option maxRecDepth 100000
set_option maxHeartbeats 4000000
set_option linter.unusedVariables false
namespace Mine

section
variable {prog : Program} {w : World} {loose : List Str} {mean : ExcName → Option Value} {mg mb : Str → Option Value} {A A₀ : Around} {env cenv : Env} {outer : List Env} {base h₀ h : Heap} {L D : Addr} {lv : Nat} {ns gl : List Str} {vs vs1 vs2 : List (Option Value)} {news nw foot rest dl tl Kp cl : List (Addr × Obj)} {x y n1 n2 : Str} {v u : Value} {p p1 p2 p3 p4 p' np cpos : Pos} {kk : Nat}
variable {gs : Array GenState} {dr : Drawn} {tk : Nat} {os : OsState} {Q E : Value → Shared → Prop} {QF : Flow → Shared → Prop} {e e1 e2 i o a b : Expr} {pos : Pos} {elts : List Expr} {rst : List Stmt} {s : Shared}

theorem FD0.more {d : Addr} {cl cl' : List (Addr × Obj)} {key : Int} {clr : Bool} {Ok : List UInt8 → Value → Prop} (q : FD0 prog w 8 d cl key clr Ok) : FD0 prog w 8 d (cl ++ cl') key clr Ok := by
  intro loose mean mg mb A A₀ env outer base h₀ h L ns vs vt rest Kp gs dr tk os Q E full pre post oc dt val fin D od kvs tb tp te C S V kx hst
  exact q full pre post oc dt val fin D od kvs tb tp te C S V kx fun q hq => hst q (List.mem_append_left _ hq)
theorem GT.app {a b c : List (Addr × Obj)} (h : GT a b) : GT (a ++ c) (b ++ c) := fun P ps hm => by
  rcases List.mem_append.mp hm with hm | hm
  · obtain ⟨p, hp⟩ := h P ps hm; exact ⟨p, List.mem_append_left _ hp⟩
  · exact ⟨ps, List.mem_append_right _ hm⟩

/-- _SimpleDecoder -/
theorem simple_mk0 {wt : Nat} {fd : Addr} {Ok : List UInt8 → Value → Prop} {t : Tok} (C : Cx w loose mean mg mb A env outer A₀ base h₀ L (lv + 2)) (S : St h₀ L h ns vs ((165, tabObj #[]) :: cl ++ rest)) (es : ES prog w 7 fd cl Ok) (fa : FA prog w 7 fd cl) (num_ok : ∀ o v, Ok o v → Num v)
    (k : ∀ f sl h' tk', SPC prog w 0 f sl wt Ok → GT ((165, tabObj #[]) :: cl) sl → St h₀ L h' ns vs (sl ++ rest) → Q (.ref f) ⟨h', gs, dr, tk', os⟩) :
    WP prog w A (PySem.call (.ref 170) [.int wt t, .ref fd]) Q E ⟨h, gs, dr, tk, os⟩ := by
  refine call_g (cl := []) (foot := (165, tabObj #[]) :: cl) (rest := rest) (args := ⟨[.int wt t, .ref fd], []⟩) (binds := [(Str.ofString "wire_type", .int wt t), (Str.ofString "decode_value", .ref fd)]) (Rel := fun v nw => ∃ f, v = .ref f ∧ SPC prog w 0 f nw wt Ok ∧ GT ((165, tabObj #[]) :: cl) nw) (ns' := [Str.ofString "SpecificDecoder"]) (gl' := []) C S (K_get C S (by k_is)) rfl (K_code C S (by k_is)) (BindsTo.of_eq rfl) (fnEnv_ofG rfl (by decide +kernel) (by decide +kernel) (by decide +kernel) (by decide +kernel)) (vs2 := fun _ => [none]) (nw2 := fun L' => [(L' + 1, cellO (some (.int wt t))), (L' + 1 + 1, cellO (some (.ref fd)))] ++ ((165, tabObj #[]) :: cl)) (fun L' => (.cel (by kernel_rfl) (by kernel_rfl) .hd (.cel (by kernel_rfl) (by kernel_rfl) (.tl .hd) .nil))) ?_ ?_
  · intro g L' h₁ tk₁ env' A' he hA C' N' S' kp Q' E' ret
    have hcode : env'.code = .ref 169 := by rw [he]
    have hq : qualnameIn env' (Str.ofString "SpecificDecoder") (Str.ofString "SpecificDecoder") = Str.ofString "_SimpleDecoder.<locals>.SpecificDecoder" := by rw [he]; kernel_rfl
    clear hA kp
    refine x_def1 rfl rfl rfl rfl ?_
    rw [hq]
    refine Ev.use' Ev.cbool fun v2 h2 tk2 n2 s2 => ?_
    obtain rfl := nt_bool n2
    refine w_mk1 (S'.grow s2) fun T h3 S3 => ?_
    refine w_tail (clos := [(Str.ofString "wire_type", L' + 1), (Str.ofString "decode_value", L' + 1 + 1)]) N' C' S3 hcode (S3.elim fun m F _ => (codeHd_of_K C'.X (by kernel_rfl)).keeps F.keep) (fun c' => .tl (.tl (.tl .hd))) (closure_of (by rw [he]; kernel_rfl)) trivial rfl fun f c' P' oc2 ctv doc pm h4 tk4 hco S4 => ?_
    refine st_loc N' S4 .hd fun h5 tk5 S5 => ?_
    refine x_ret (Ev.loc N' S5 .hd) fun v6 h6 tk6 n6 s6 => ?_
    obtain rfl := nt_ref n6
    refine ret _ _ _ _ _ _ (S5.grow s6) ⟨f, rfl, ?_, (GT.sub fun q hq => (.tail _ (.tail _ (.tail _ (hq))))).trans ((GT.sel (.tl (.tl (.tl .hd)))).trans (GT.sub fun q hq => (.tail _ (.tail _ (.tail _ (hq))))))⟩
    refine (fun sl hsl => ?_ : ∀ sl, sl = _ → SPC prog w 0 f sl wt Ok) _ rfl
    refine ⟨fun h q => ⟨_, _, _, _, q _ (by rw [hsl]; exact .head _)⟩, ?_⟩
    intro loose mean mg mb A A₀ env outer base h₀ h L ns vs vt rest Kp gs dr tk os Q E num clr t1 t2 hnum C S k
    rw [hsl] at S
    refine call_g (cl := [(Str.ofString "wire_type", L' + 1), (Str.ofString "decode_value", L' + 1 + 1)]) (foot := _) (rest := (102, tabObj #[]) :: rest) (args := ⟨[.int num t1, .bool false, .bool false, .int num t2, .ref 383, .bool clr], []⟩) (binds := [(Str.ofString "field_number", .int num t1), (Str.ofString "is_repeated", .bool false), (Str.ofString "is_packed", .bool false), (Str.ofString "key", .int num t2), (Str.ofString "new_default", .ref 383), (Str.ofString "clear_if_default", .bool clr)]) (Rel := fun v nw => ∃ f, v = .ref f ∧ (∀ h : Heap, (∀ q ∈ nw, h.get? q.1 = some q.2) → FnAt f h) ∧ FD0 prog w 8 f nw num clr Ok ∧ GT sl nw) (ns' := [Str.ofString "field_number", Str.ofString "is_repeated", Str.ofString "is_packed", Str.ofString "DecodePackedField", Str.ofString "DecodeRepeatedField", Str.ofString "DecodeField"]) (gl' := []) C S (S.get (.head _)) rfl (hco _ (S.get (.tail _ (.head _)))).2 (kdv_binds S.nw (.tail _ (.tail _ (.tail _ (.head _)))) rfl rfl rfl) (fnEnv_ofG rfl (by decide +kernel) (by decide +kernel) (by decide +kernel) (by decide +kernel)) (vs2 := fun _ => [some (.int num 0), some (.bool false), some (.bool false), none, none, none]) (nw2 := fun L' => [(L' + 1, cellO (some (.int num t2))), (L' + 1 + 1, cellO (some (.ref 383))), (L' + 1 + 1 + 1, cellO (some (.bool clr))), (L' + 1 + 1 + 1 + 1, cellO none), (L' + 1 + 1 + 1 + 1 + 1, cellO none), (L' + 1 + 1 + 1 + 1 + 1 + 1, cellO none)] ++ (_)) (fun L' => (.loc .hd (.loc (.tl .hd) (.loc (.tl (.tl .hd)) (.cel (by kernel_rfl) (by kernel_rfl) .hd (.cel (by kernel_rfl) (by kernel_rfl) (.tl .hd) (.cel (by kernel_rfl) (by kernel_rfl) (.tl (.tl .hd)) .nil))))))) ?_ ?_
    · intro g L2 h₁ tk₁ env' A' he hA C' N' S' kp Q' E' ret
      have hcode : env'.code = .ref c' := by rw [he]
      have hq : qualnameIn env' (Str.ofString "DecodeField") (Str.ofString "DecodeField") = Str.ofString "_SimpleDecoder.<locals>.SpecificDecoder.<locals>.DecodeField" := by rw [he]; kernel_rfl
      clear hA kp
      refine x_if (Ts.bool (Ev.loc N' S' (.tl (.tl .hd)))) (fun hc => absurd hc (by decide)) fun _ h2 tk2 s2 => ?_
      have S2 := S'.grow s2
      refine x_if (Ts.bool (Ev.loc N' S2 (.tl .hd))) (fun hc => absurd hc (by decide)) fun _ h3 tk3 s3 => ?_
      have S3 := S2.grow s3
      refine x_def1 rfl rfl rfl rfl ?_
      rw [hq]
      refine Ev.use' Ev.int fun v4 h4 tk4 n4 s4 => ?_
      obtain ⟨t4, rfl⟩ := nt_int n4
      refine w_mk1 (S3.grow s4) fun T2 h5 S5 => ?_
      refine w_tail (clos := [(Str.ofString "key", L2 + 1), (Str.ofString "decode_value", L' + 1 + 1), (Str.ofString "clear_if_default", L2 + 1 + 1 + 1)]) N' C' S5 hcode ((hco h5 (S5.get (.tail _ (.tail _ (.tail _ (.tail _ (.tail _ (.tail _ (.tail _ (.tail _ (.head _))))))))))).1) (fun c' => .tl (.tl (.tl (.tl (.tl (.tl (.tl (.tl (.tl .hd))))))))) (closure_of (by rw [he]; kernel_rfl)) trivial rfl fun f2 c2 P2 oc3 ctv doc pm h6 tk6 hco2 S6 => ?_
      refine st_loc N' S6 (.tl (.tl (.tl (.tl (.tl .hd))))) fun h7 tk7 S7 => ?_
      refine x_ret (Ev.loc N' S7 (.tl (.tl (.tl (.tl (.tl .hd)))))) fun v8 h8 tk8 n8 s8 => ?_
      obtain rfl := nt_ref n8
      refine ret _ _ _ _ _ _ (S7.grow s8) ⟨f2, rfl, fun h q => ⟨_, _, _, _, q _ (.head _)⟩, ?_, ?_⟩
      rotate_left
      · rw [hsl]; exact (GT.sub fun q hq => (.tail _ (.tail _ (.tail _ (.tail _ (.tail _ (.tail _ (.tail _ (hq))))))))).trans ((GT.sel (.tl (.tl (.tl (.tl (.tl (.tl (.tl (.tl (.tl .hd)))))))))).trans (GT.sub fun q hq => (.tail _ (.tail _ (.tail _ (hq))))))
      intro loose mean mg mb A A₀ env outer base h₀ h L ns vs vt rest Kp gs dr tk os Q E full pre post oc dt val fin D od kvs tb tp te C S V kx hst hod hkv lo ok hd hz hfin hcf k kE
      refine call_gx (RelE := fun nw => ∃ vt2, nw = (D, od) :: vt2 ∧ VTs vt2 ∧ (full = false ∨ fin < pre.length + oc.length)) (cl := [(Str.ofString "key", L2 + 1), (Str.ofString "decode_value", L' + 1 + 1), (Str.ofString "clear_if_default", L2 + 1 + 1 + 1)]) (foot := (D, od) :: vt) (rest := rest) (args := ⟨[.bytes ((pre ++ dt).toArray) tb, .int pre.length tp, .int fin te, .none, .ref D], []⟩) (binds := [(Str.ofString "buffer", .bytes ((pre ++ dt).toArray) tb), (Str.ofString "pos", .int pre.length tp), (Str.ofString "end", .int fin te), (Str.ofString "message", .none), (Str.ofString "field_dict", .ref D), (Str.ofString "current_depth", .int 0 t4)]) (Rel := fun v nw => full = true ∧ pre.length + oc.length ≤ fin ∧ ∃ v2 t od2 vt2, v = .int (pre.length + oc.length : Nat) t ∧ nt v2 = nt val ∧ VTs vt2 ∧ od2.IsDictOf (intKind prog w) (if clr && isDef val then [] else [(num, v2)]) ∧ nw = (D, od2) :: vt2) (ns' := [Str.ofString "buffer", Str.ofString "pos", Str.ofString "end", Str.ofString "message", Str.ofString "field_dict", Str.ofString "current_depth", Str.ofString "new_value"]) (gl' := [Str.ofString "DecodeError", Str.ofString "IsDefaultScalarValue"]) C S kx (hst _ (.head _)).1 rfl (hco2 _ (hst _ (.tail _ (.head _))).1).2 (BindsTo.of_defaults rfl (hst (T2, _) (.tail _ (.tail _ (.tail _ (.head _))))).1 rfl rfl rfl) (fnEnv_ofG rfl (by decide +kernel) (by decide +kernel) (by decide +kernel) (by decide +kernel)) (vs2 := fun _ => [some (.bytes ((pre ++ dt).toArray) 0), some (.int pre.length 0), some (.int fin 0), some (.none), some (.ref D), some (.int 0 0), none]) (nw2 := fun L' => (D, od) :: vt) (fun L' => (.loc .hd (.loc (.tl .hd) (.loc (.tl (.tl .hd)) (.loc (.tl (.tl (.tl .hd))) (.loc (.tl (.tl (.tl (.tl .hd)))) (.loc (.tl (.tl (.tl (.tl (.tl .hd))))) .nil))))))) ?_ ?_ ?_
      · intro g L3 h₁ tk₁ env' A' he hA C' N' S' kp kx' Q' E' ret rai
        have ceK : CE env' (Str.ofString "key") (L2 + 1) := ⟨.inr (by rw [he]; kernel_rfl), by rw [he]; kernel_rfl, by decide +kernel, by decide +kernel⟩
        have ceV : CE env' (Str.ofString "decode_value") (L' + 1 + 1) := ⟨.inr (by rw [he]; kernel_rfl), by rw [he]; kernel_rfl, by decide +kernel, by decide +kernel⟩
        have ceC : CE env' (Str.ofString "clear_if_default") (L2 + 1 + 1 + 1) := ⟨.inr (by rw [he]; kernel_rfl), by rw [he]; kernel_rfl, by decide +kernel, by decide +kernel⟩
        have hstg : Stand _ ((D, od) :: vt) g := fun q hq => ⟨kp q.1 q.2 (fun hm => by
          obtain ⟨r, hr, er⟩ := List.mem_map.mp hm
          exact (hst q hq).2 r hr er) (hst q hq).1, (hst q hq).2⟩
        clear hA kp
        have gK := (hstg (L2 + 1, cellO (some (.int num t2))) (.tail _ (.tail _ (.tail _ (.tail _ (.head _)))))).1
        have gV := (hstg (L' + 1 + 1, cellO (some (.ref fd))) (.tail _ (.tail _ (.tail _ (.tail _ (.tail _ (.tail _ (.tail _ (.tail _ (.tail _ (.tail _ (.tail _ (.tail _ (.tail _ (.tail _ (.tail _ (.head _))))))))))))))))).1
        have gC := (hstg (L2 + 1 + 1 + 1, cellO (some (.bool clr))) (.tail _ (.tail _ (.tail _ (.tail _ (.tail _ (.tail _ (.head _)))))))).1
        have hcl : Stand cl ((D, od) :: vt) g := fun q hq => hstg q (.tail _ (.tail _ (.tail _ (.tail _ (.tail _ (.tail _ (.tail _ (.tail _ (.tail _ (.tail _ (.tail _ (.tail _ (.tail _ (.tail _ (.tail _ (.tail _ (.tail _ (hq))))))))))))))))))
        have hi : interactive env' = false := by rw [he]; rfl
        clear hstg hst he
        refine x_pair (h₀ := g) (gs := gs) (dr := dr) (os := os) N' C'.hand (c_fn (a := fd) (Ev.cellH N'.kind ceV (S'.keep gV) rfl) fun h2 tk2 s2 => sp_p ((Ev.loc N' S' .hd).grow s2) fun v3 h3 tk3 n3 s3 => sp_p (((Ev.loc N' S' (.tl .hd)).grow s2).grow s3) fun v4 h4 tk4 n4 s4 => sp_n ?_)
        obtain ⟨t3, rfl⟩ := nt_bytes n3
        obtain ⟨t4', rfl⟩ := nt_int n4
        have S4 := ((S'.grow s2).grow s3).grow s4
        refine ⟨fa C' S4 (fun q hq => S4.keep (hcl q hq).1), (es full pre post oc dt val t3 t4' C' S4.rot V kx' (fun q hq => ⟨S4.keep (hcl q hq).1, fun r hr => (hcl q hq).2 r (.tail _ hr)⟩) ok hd hz (fun hf T v5 t5 h5 tk5 vt5 n5 V5 S5 => ?_) (fun hf e g₂ m h5 tk5 vt5 F5 V5 R5 => ?_)).out⟩
        · refine ⟨T, v5, _, h5, tk5, _, _, _, _, rfl, rfl, S5, .head _, .tl (.tl (.tl (.tl (.tl (.tl .hd))))), .tl .hd, fun h6 tk6 S6 => ?_⟩
          have nv : Num (nt v5) := by rw [n5]; exact (num_ok _ _ ok).nt (nt_nt val)
          have ed : isDef (nt v5) = isDef val := by rw [n5, isDef_nt]
          refine x_if (Ts.gt (Ev.loc N' S6 (.tl .hd)) (Ev.loc N' S6 (.tl (.tl .hd)))) (fun hc h7 tk7 s7 => ?_) fun hc h7 tk7 s7 => x_nil (Nx.go ?_)
          · have hlt := of_decide_eq_true hc
            refine x_raise (c := 37) N' C' (S6.grow s7) (by k_is) (by kernel_rfl) (.head _) Ev.cstr fun h8 h9 e9 tk9 s9 f9 => ?_
            exact rai.new e9 _ h8 h9 tk9 _ _ ((D, od) :: vt5) (((S6.grow s7).grow s9).drop).comm ⟨vt5, rfl, V5, .inr (by omega)⟩ (.inr (.inl rfl)) f9
          · have hge := of_decide_eq_false hc
            have S7 : St g L3 h7 _ _ ((D, od) :: vt5) := ((S6.grow s7).drop).comm
            refine x_ifW (WP.mono (Q := fun c s => c = (clr && isDef val) ∧ ∃ h tk, s = ⟨h, gs, dr, tk, os⟩ ∧ St g L3 h [Str.ofString "buffer", Str.ofString "pos", Str.ofString "end", Str.ofString "message", Str.ofString "field_dict", Str.ofString "current_depth", Str.ofString "new_value"] [some (.bytes (pre ++ dt).toArray 0), some (.int (pre.length + oc.length : Nat) 0), some (.int fin 0), some .none, some (.ref D), some (.int 0 0), some (nt v5)] ((D, od) :: vt5)) (WB.wp (WB.and ((Ts.bool (Ev.cellH N'.kind ceC (S7.keep gC) rfl)).use _ (stays_refl _) gs dr _ os _ _ fun h8 tk8 s8 => ?_))) ?_)
            · have S8 := S7.grow s8
              cases clr with
              | false => exact ⟨rfl, h8, tk8, rfl, S8⟩
              | true =>
                rw [if_pos rfl]
                refine WB.and (w_tplain (c_fn (a := 121) (Ev.glob N' C' S8 (by k_is) (.tail _ (.head _)) rfl) fun h9 tk9 s9 => sp_p ((Ev.loc N' S8 (.tl (.tl (.tl (.tl (.tl (.tl .hd))))))).grow s9) fun v10 h10 tk10 n10 s10 => sp_n ?_))
                have S10 := (S8.grow s9).grow s10
                have nv10 : Num v10 := nv.nt (by rw [n10, nt_nt])
                refine ⟨fnAt_K C' S10 (by k_is), (isdef_ok nv10 C' S10 fun h11 tk11 S11 => .mk (wpAny_truthy_bool ?_)).out⟩
                have e10 : isDef v10 = isDef val := by rw [← isDef_nt v10, n10, ed]
                rw [e10]
                cases isDef val with
                | true => rw [if_pos rfl]; exact WB.andN ⟨rfl, h11, tk11, rfl, S11⟩
                | false => rw [if_neg Bool.false_ne_true]; exact ⟨rfl, h11, tk11, rfl, S11⟩
            · rintro c s ⟨hc, h8, tk8, rfl, S8⟩
              have fin2 : ∀ {p1 p2 : Pos} {rst : List Stmt} v9 od2 h9 tk9, nt v9 = nt val → od2.IsDictOf (intKind prog w) (if clr && isDef val then [] else [(((num : Nat) : Int), v9)]) → St g L3 h9 [Str.ofString "buffer", Str.ofString "pos", Str.ofString "end", Str.ofString "message", Str.ofString "field_dict", Str.ofString "current_depth", Str.ofString "new_value"] [some (.bytes (pre ++ dt).toArray 0), some (.int (pre.length + oc.length : Nat) 0), some (.int fin 0), some .none, some (.ref D), some (.int 0 0), some (nt v5)] ((D, od2) :: vt5) → WP prog w A' (execs (.Return (some (.Name (Str.ofString "pos") p1)) p2 :: rst) env') Q' E' ⟨h9, gs, dr, tk9, os⟩ := fun v9 od2 h9 tk9 hn9 ho S9 => x_ret (Ev.loc N' S9 (.tl .hd)) fun v10 h10 tk10 n10 s10 => by
                obtain ⟨t10, rfl⟩ := nt_int n10
                exact ret _ _ _ _ _ _ (S9.grow s10) ⟨hf, by omega, v9, t10, od2, vt5, rfl, hn9, V5, ho, rfl⟩
              cases c with
              | true => 
                rw [if_pos rfl]
                refine x_dpop S8 (fun o' => .hd) hod hkv lo (Ev.loc N' S8 (.tl (.tl (.tl (.tl .hd))))) (Ev.cellH N'.kind ceK (S8.keep gK) rfl) Ev.cnone (fun h9 tk9 od2 ho2 S9 => x_nil (Nx.go (fin2 v5 od2 h9 tk9 n5 ?_ S9))) hi
                rw [← hc, if_pos rfl]
                exact ho2
              | false =>
                rw [if_neg Bool.false_ne_true]
                refine x_dset S8 (fun o' => .hd) hod (Ev.loc N' S8 (.tl (.tl (.tl (.tl (.tl (.tl .hd))))))) (Ev.loc N' S8 (.tl (.tl (.tl (.tl .hd))))) (Ev.cellH N'.kind ceK (S8.keep gK) rfl) (by rcases hkv with rfl | ⟨v, rfl⟩ <;> simp) fun v9 h9 tk9 od2 hn9 ho2 S9 => x_nil (Nx.go (fin2 v9 od2 h9 tk9 (hn9.trans n5) ?_ S9))
                rw [← hc, if_neg Bool.false_ne_true]
                have es : stored kvs num v9 = [(((num : Nat) : Int), v9)] := by rcases hkv with rfl | ⟨v, rfl⟩ <;> simp [stored]
                rw [← es]
                exact ho2
        · exact rai.on e g₂ m h5 tk5 ((D, od) :: vt5) F5.comm ⟨vt5, rfl, V5, .inl hf⟩ (R5.sub sub_swap)
      · rintro v h' tk' nw ⟨hf, hle, v2, t, od2, vt2, rfl, hn, V2, ho2, rfl⟩ S2
        exact k hf hle v2 t od2 h' tk' vt2 hn V2 ho2 S2
      · rintro e g₂ m h' tk' nw F2 ⟨vt2, rfl, V2, hf⟩ R
        exact kE hf e g₂ m h' tk' vt2 F2 V2 R
    · rintro v h' tk' nw ⟨f, rfl, hf, hs, hg⟩ S'
      exact k f (nw ++ [(102, tabObj #[])]) h' tk' (fun h hq => hf h fun q h2 => hq q (List.mem_append_left _ h2)) (FD0.more hs) (GT.app hg) (by rw [List.append_assoc]; exact S')
  · rintro v h' tk' nw ⟨f, rfl, hs, hg⟩ S'
    exact k f nw h' tk' hs hg S'
end
end Mine
end
section
open PySem PySem.Spec PySem.Calls PySem.W PyProof.Rows
open LCg (NsObj ns_obj fr_but)
set_option maxRecDepth 100000
set_option maxHeartbeats 4000000
set_option linter.unusedVariables false
namespace Mine
theorem Dt.split {full : Bool} {post a b dt : List UInt8} (h : Dt full post (a ++ b) dt) : (∃ d2, dt = a ++ d2 ∧ (full = true → d2 = b ++ post)) ∨ (full = false ∧ Dt false [] a dt) := by
  cases full with
  | true => exact .inl ⟨b ++ post, by have : dt = (a ++ b) ++ post := h; rw [this, List.append_assoc], fun _ => rfl⟩
  | false =>
    obtain ⟨j, hj, e⟩ : ∃ j, j < (a ++ b).length ∧ dt = (a ++ b).take j := h
    by_cases hja : j < a.length
    · exact .inr ⟨rfl, j, hja, by rw [e, List.take_append_of_le_length (by omega)]⟩
    · exact .inl ⟨b.take (j - a.length), by rw [e, List.take_append, List.take_of_length_le (by omega)], fun h => nomatch h⟩
section
variable {prog : Program} {w : World} {loose : List Str} {mean : ExcName → Option Value} {mg mb : Str → Option Value} {A A₀ : Around} {env cenv : Env} {outer : List Env} {base h₀ h : Heap} {L D cK cN : Addr} {lv num n : Nat} {ns gl : List Str} {vs vs1 vs2 : List (Option Value)} {news nw foot rest dl tl Kp cl : List (Addr × Obj)} {x y n1 n2 : Str} {v u : Value} {p p1 p2 p3 p4 p5 p' np cpos : Pos} {kk : Nat}
variable {gs : Array GenState} {dr : Drawn} {tk : Nat} {os : OsState} {Q E : Value → Shared → Prop} {QB : Bool → Shared → Prop} {QF : Flow → Shared → Prop} {e e1 e2 i o a b : Expr} {pos : Pos} {elts : List Expr} {rst : List Stmt} {s : Shared} {c : Bool} {its : List Value} {t2 : Tok}

/-- del value[-1] -/
theorem x_dellast (S : St h₀ L h ns vs news) (qo : Ev prog w A env h o (.ref D)) (qi : Ev prog w A env h i (.int (-1) 0)) (sel : Sel D (listOf (its ++ [v]).toArray n) (listOf its.toArray (n + 1)) news nw) (hz : its.length < 16777216)
    (k : ∀ h' tk', St h₀ L h' ns vs nw → WP prog w A (execs rst env) QF E ⟨h', gs, dr, tk', os⟩) :
    WP prog w A (execs (.Delete [.Subscript o i p] p' :: rst) env) QF E ⟨h, gs, dr, tk, os⟩ := x_cons (.mk (by
  refine wpAny_Delete (wpAny_deleteEach_cons (wpAny_delete_Subscript ?_))
  refine (Ev.use' qo fun ov h2 tk2 n2 s2 => ?_).out
  obtain rfl := nt_ref n2
  refine (Ev.use' (qi.grow s2) fun iv h3 tk3 n3 s3 => ?_).out
  obtain ⟨t3, rfl⟩ := nt_int n3
  have S3 := (S.grow s2).grow s3
  have hsz : (its ++ [v]).toArray.size = its.length + 1 := by simp
  refine delItem_at (its := (its ++ [v]).toArray) (n := n) (k := its.length) (S3.get sel.mem) (by decide +kernel) (by
    rw [hsz]
    simp only [seqIndex?]
    have h1 : (-1 : Int) + ((its.length + 1 : Nat) : Int) = (its.length : Int) := by omega
    simp
    omega) (fun h' hs e' => ?_) (by rw [sizeLine_eq, hsz]; omega)
  have e2 : (((its ++ [v]).toArray.toList.eraseIdx its.length).toArray) = its.toArray := by
    simp
    rw [List.eraseIdx_append_of_length_le (Nat.le_refl _)]
    simp
  rw [e2] at e'
  exact wpAny_deleteEach_nil (k h' _ (S3.but sel (fun b x hb e => (hs.2 b hb).trans e) e')).out))
end
end Mine
end
section
open PySem PySem.Spec PySem.Calls PySem.W PyProof.Rows
open LCg (NsObj ns_obj fr_but)
set_option maxRecDepth 100000
set_option maxHeartbeats 4000000
set_option linter.unusedVariables false
namespace Mine

section
variable {prog : Program} {w : World} {loose : List Str} {mean : ExcName → Option Value} {mg mb : Str → Option Value} {A A₀ : Around} {env cenv : Env} {outer : List Env} {base h₀ h : Heap} {L D : Addr} {lv : Nat} {ns gl : List Str} {vs vs1 vs2 : List (Option Value)} {news nw foot rest dl tl Kp cl : List (Addr × Obj)} {x y n1 n2 : Str} {v u : Value} {p p1 p2 p3 p4 p' np cpos : Pos} {kk : Nat}
variable {gs : Array GenState} {dr : Drawn} {tk : Nat} {os : OsState} {Q E : Value → Shared → Prop} {QF : Flow → Shared → Prop} {e e1 e2 i o a b : Expr} {pos : Pos} {elts : List Expr} {rst : List Stmt} {s : Shared}

theorem FD2.more {d : Addr} {cl cl' : List (Addr × Obj)} {key : Int} {Ok : List UInt8 → Value → Prop} (q : FD2 prog w 8 d cl key Ok) : FD2 prog w 8 d (cl ++ cl') key Ok := by
  intro loose mean mg mb A A₀ env outer base h₀ h L ns vs vt rest Kp gs dr tk os Q E full pre post dt lo raw pieces fin D its tl tb tp te C S V kx hst
  exact q full pre post dt lo raw pieces fin D its tl tb tp te C S V kx fun q hq => hst q (List.mem_append_left _ hq)
theorem St.apart (S : St h₀ L h ns vs news) {r : Addr × Obj} (hr : r ∈ news) {a : Addr} {o : Obj} (e : h₀.get? a = some o) : r.1 ≠ a := fun q => by
  have := (S.nw r hr).2.2
  rw [q, e] at this
  cases this
theorem snoc_of_map {vals : List Value} {a b : List Value} {z : Value} (h : vals.map nt = a ++ b ++ [z] ∨ vals.map nt = a ++ [z]) : ∃ x y, vals = x ++ [y] := by
  rcases List.eq_nil_or_concat vals with e | ⟨x, y, e⟩
  · rw [e] at h; simp at h
  · exact ⟨x, y, by simpa using e⟩
theorem last_of {dn td init : List (List UInt8 × Value)} {last : List UInt8 × Value} (h : dn ++ td = init ++ [last]) (ht : 0 < (td.flatMap (·.1)).length) : last.1.length ≤ (td.flatMap (·.1)).length := by
  rcases List.eq_nil_or_concat td with e | ⟨x, y, e⟩
  · rw [e] at ht; simp at ht
  · have e2 : td = x ++ [y] := by simpa using e
    rw [e2, ← List.append_assoc] at h
    have := (List.append_inj' h rfl).2
    cases this
    rw [e2, List.flatMap_append, List.length_append]
    simp
theorem sub_swap2 {a b r : List (Addr × Obj)} : ∀ q ∈ a ++ b ++ r, q ∈ b ++ (a ++ r) := by
  intro q hq
  simp only [List.mem_append] at hq ⊢
  rcases hq with (hq | hq) | hq <;> simp [hq]
/-- _SimpleDecoder -/
theorem simple_mk2 {wt : Nat} {fd : Addr} {Ok : List UInt8 → Value → Prop} {t : Tok} (C : Cx w loose mean mg mb A env outer A₀ base h₀ L (lv + 2)) (S : St h₀ L h ns vs ((165, tabObj #[]) :: cl ++ rest)) (es : ES prog w 7 fd cl Ok) (fa : FA prog w 7 fd cl) (num_ok : ∀ o v, Ok o v → Num v)
    (k : ∀ f sl h' tk', SPC prog w 2 f sl wt Ok → GT ((165, tabObj #[]) :: cl) sl → St h₀ L h' ns vs (sl ++ rest) → Q (.ref f) ⟨h', gs, dr, tk', os⟩) :
    WP prog w A (PySem.call (.ref 170) [.int wt t, .ref fd]) Q E ⟨h, gs, dr, tk, os⟩ := by
  refine call_g (cl := []) (foot := (165, tabObj #[]) :: cl) (rest := rest) (args := ⟨[.int wt t, .ref fd], []⟩) (binds := [(Str.ofString "wire_type", .int wt t), (Str.ofString "decode_value", .ref fd)]) (Rel := fun v nw => ∃ f, v = .ref f ∧ SPC prog w 2 f nw wt Ok ∧ GT ((165, tabObj #[]) :: cl) nw) (ns' := [Str.ofString "SpecificDecoder"]) (gl' := []) C S (K_get C S (by k_is)) rfl (K_code C S (by k_is)) (BindsTo.of_eq rfl) (fnEnv_ofG rfl (by decide +kernel) (by decide +kernel) (by decide +kernel) (by decide +kernel)) (vs2 := fun _ => [none]) (nw2 := fun L' => [(L' + 1, cellO (some (.int wt t))), (L' + 1 + 1, cellO (some (.ref fd)))] ++ ((165, tabObj #[]) :: cl)) (fun L' => (.cel (by kernel_rfl) (by kernel_rfl) .hd (.cel (by kernel_rfl) (by kernel_rfl) (.tl .hd) .nil))) ?_ ?_
  · intro g L' h₁ tk₁ env' A' he hA C' N' S' kp Q' E' ret
    have hcode : env'.code = .ref 169 := by rw [he]
    have hq : qualnameIn env' (Str.ofString "SpecificDecoder") (Str.ofString "SpecificDecoder") = Str.ofString "_SimpleDecoder.<locals>.SpecificDecoder" := by rw [he]; kernel_rfl
    clear hA kp
    refine x_def1 rfl rfl rfl rfl ?_
    rw [hq]
    refine Ev.use' Ev.cbool fun v2 h2 tk2 n2 s2 => ?_
    obtain rfl := nt_bool n2
    refine w_mk1 (S'.grow s2) fun T h3 S3 => ?_
    refine w_tail (clos := [(Str.ofString "wire_type", L' + 1), (Str.ofString "decode_value", L' + 1 + 1)]) N' C' S3 hcode (S3.elim fun m F _ => (codeHd_of_K C'.X (by kernel_rfl)).keeps F.keep) (fun c' => .tl (.tl (.tl .hd))) (closure_of (by rw [he]; kernel_rfl)) trivial rfl fun f c' P' oc2 ctv doc pm h4 tk4 hco S4 => ?_
    refine st_loc N' S4 .hd fun h5 tk5 S5 => ?_
    refine x_ret (Ev.loc N' S5 .hd) fun v6 h6 tk6 n6 s6 => ?_
    obtain rfl := nt_ref n6
    refine ret _ _ _ _ _ _ (S5.grow s6) ⟨f, rfl, ?_, (GT.sub fun q hq => (.tail _ (.tail _ (.tail _ (hq))))).trans ((GT.sel (.tl (.tl (.tl .hd)))).trans (GT.sub fun q hq => (.tail _ (.tail _ (.tail _ (hq))))))⟩
    refine (fun sl hsl => ?_ : ∀ sl, sl = _ → SPC prog w 2 f sl wt Ok) _ rfl
    refine ⟨fun h q => ⟨_, _, _, _, q _ (by rw [hsl]; exact .head _)⟩, ?_⟩
    intro loose mean mg mb A A₀ env outer base h₀ h L ns vs vt rest Kp gs dr tk os Q E num clr t1 t2 hnum C S k
    rw [hsl] at S
    refine call_g (cl := [(Str.ofString "wire_type", L' + 1), (Str.ofString "decode_value", L' + 1 + 1)]) (foot := _) (rest := (102, tabObj #[]) :: rest) (args := ⟨[.int num t1, .bool true, .bool true, .int num t2, .ref 383, .bool clr], []⟩) (binds := [(Str.ofString "field_number", .int num t1), (Str.ofString "is_repeated", .bool true), (Str.ofString "is_packed", .bool true), (Str.ofString "key", .int num t2), (Str.ofString "new_default", .ref 383), (Str.ofString "clear_if_default", .bool clr)]) (Rel := fun v nw => ∃ f, v = .ref f ∧ (∀ h : Heap, (∀ q ∈ nw, h.get? q.1 = some q.2) → FnAt f h) ∧ FD2 prog w 8 f nw num Ok ∧ GT sl nw) (ns' := [Str.ofString "field_number", Str.ofString "is_repeated", Str.ofString "is_packed", Str.ofString "DecodePackedField", Str.ofString "DecodeRepeatedField", Str.ofString "DecodeField"]) (gl' := [Str.ofString "_DecodeVarint"]) C S (S.get (.head _)) rfl (hco _ (S.get (.tail _ (.head _)))).2 (kdv_binds S.nw (.tail _ (.tail _ (.tail _ (.head _)))) rfl rfl rfl) (fnEnv_ofG rfl (by decide +kernel) (by decide +kernel) (by decide +kernel) (by decide +kernel)) (vs2 := fun _ => [some (.int num 0), some (.bool true), some (.bool true), none, none, none]) (nw2 := fun L' => [(L' + 1, cellO (some (.int num t2))), (L' + 1 + 1, cellO (some (.ref 383))), (L' + 1 + 1 + 1, cellO (some (.bool clr))), (L' + 1 + 1 + 1 + 1, cellO none), (L' + 1 + 1 + 1 + 1 + 1, cellO none), (L' + 1 + 1 + 1 + 1 + 1 + 1, cellO none)] ++ (_)) (fun L' => (.loc .hd (.loc (.tl .hd) (.loc (.tl (.tl .hd)) (.cel (by kernel_rfl) (by kernel_rfl) .hd (.cel (by kernel_rfl) (by kernel_rfl) (.tl .hd) (.cel (by kernel_rfl) (by kernel_rfl) (.tl (.tl .hd)) .nil))))))) ?_ ?_
    · intro g L2 h₁ tk₁ env' A' he hA C' N' S' kp Q' E' ret
      have hcode : env'.code = .ref c' := by rw [he]
      have hq : qualnameIn env' (Str.ofString "DecodePackedField") (Str.ofString "DecodePackedField") = Str.ofString "_SimpleDecoder.<locals>.SpecificDecoder.<locals>.DecodePackedField" := by rw [he]; kernel_rfl
      clear hA kp
      refine x_if (Ts.bool (Ev.loc N' S' (.tl (.tl .hd)))) (fun _ h2 tk2 s2 => ?_) fun hc => absurd hc (by decide)
      have S2 := S'.grow s2
      refine x_asg (Ev.use' (Ev.glob N' C' S2 (by k_is) (.head _) rfl) fun v3 h3 tk3 n3 s3 => ?_)
      obtain rfl := nt_ref n3
      refine st_cell N'.kind (by rw [he]; kernel_rfl) (by rw [he]; kernel_rfl) (S2.grow s3) (.tl (.tl (.tl .hd))) fun h3 S3 => ?_
      refine x_def1 rfl rfl rfl rfl ?_
      rw [hq]
      refine Ev.use' Ev.int fun v4 h4 tk4 n4 s4 => ?_
      obtain ⟨t4, rfl⟩ := nt_int n4
      refine w_mk1 (S3.grow s4) fun T2 h5 S5 => ?_
      refine w_tail (clos := [(Str.ofString "new_default", L2 + 1 + 1), (Str.ofString "local_DecodeVarint", L2 + 1 + 1 + 1 + 1), (Str.ofString "key", L2 + 1), (Str.ofString "decode_value", L' + 1 + 1)]) N' C' S5 hcode ((hco h5 (S5.get (.tail _ (.tail _ (.tail _ (.tail _ (.tail _ (.tail _ (.tail _ (.tail _ (.head _))))))))))).1) (fun c' => (.tl (.tl (.tl (.tl (.tl (.tl (.tl (.tl (.tl .hd)))))))))) (closure_of (by rw [he]; kernel_rfl)) trivial rfl fun f2 c2 P2 oc3 ctv doc pm h6 tk6 hco2 S6 => ?_
      refine st_loc N' S6 (.tl (.tl (.tl .hd))) fun h7 tk7 S7 => ?_
      refine x_ret (Ev.loc N' S7 (.tl (.tl (.tl .hd)))) fun v8 h8 tk8 n8 s8 => ?_
      obtain rfl := nt_ref n8
      refine ret _ _ _ _ _ _ (S7.grow s8) ⟨f2, rfl, fun h q => ⟨_, _, _, _, q _ (.head _)⟩, ?_, ?_⟩
      rotate_left
      · rw [hsl]; exact (GT.sub fun q hq => (.tail _ (.tail _ (.tail _ (.tail _ (.tail _ (.tail _ (.tail _ (hq))))))))).trans ((GT.sel (.tl (.tl (.tl (.tl (.tl (.tl (.tl (.tl (.tl .hd)))))))))).trans (GT.sub fun q hq => (.tail _ (.tail _ (.tail _ (hq))))))
      intro loose mean mg mb A A₀ env outer base h₀ h L ns vs vt rest Kp gs dr tk os Q E full pre post dt lo raw pieces fin D its tl tb tp te C S V kx hst Tl lo' hpc hvo hlo10 hraw hd hz hfin hits hff hn k kB kC
      rw [← List.append_assoc] at S
      refine call_gx (RelE := fun nw => ∃ tl2 vt2, nw = tl2 ++ vt2 ∧ VTs vt2 ∧ ((fin < pre.length + lo.length + raw ∧ TLm prog w D num its tl2) ∨ (raw + 1 = (pieces.flatMap (·.1)).length ∧ ∃ init last vals, pieces = init ++ [last] ∧ vals.map nt = init.map (fun p => nt p.2) ∧ TLm prog w D num (its ++ vals) tl2))) (cl := [(Str.ofString "new_default", L2 + 1 + 1), (Str.ofString "local_DecodeVarint", L2 + 1 + 1 + 1 + 1), (Str.ofString "key", L2 + 1), (Str.ofString "decode_value", L' + 1 + 1)]) (foot := tl ++ vt) (rest := rest) (args := ⟨[.bytes ((pre ++ dt).toArray) tb, .int pre.length tp, .int fin te, .none, .ref D], []⟩) (binds := [(Str.ofString "buffer", .bytes ((pre ++ dt).toArray) tb), (Str.ofString "pos", .int pre.length tp), (Str.ofString "end", .int fin te), (Str.ofString "message", .none), (Str.ofString "field_dict", .ref D), (Str.ofString "current_depth", .int 0 t4)]) (Rel := fun v nw => raw = (pieces.flatMap (·.1)).length ∧ full = true ∧ pre.length + lo.length + raw ≤ fin ∧ ∃ vals t tl2 vt2, v = .int (pre.length + lo.length + raw : Nat) t ∧ vals.map nt = pieces.map (fun p => nt p.2) ∧ VTs vt2 ∧ TLm prog w D num (its ++ vals) tl2 ∧ nw = tl2 ++ vt2) (ns' := [Str.ofString "buffer", Str.ofString "pos", Str.ofString "end", Str.ofString "message", Str.ofString "field_dict", Str.ofString "current_depth", Str.ofString "value", Str.ofString "endpoint", Str.ofString "element"]) (gl' := [Str.ofString "DecodeError"]) C S kx (hst _ (.head _)).1 rfl (hco2 _ (hst _ (.tail _ (.head _))).1).2 (BindsTo.of_defaults rfl (hst (T2, _) (.tail _ (.tail _ (.tail _ (.head _))))).1 rfl rfl rfl) (fnEnv_ofG rfl (by decide +kernel) (by decide +kernel) (by decide +kernel) (by decide +kernel)) (vs2 := fun _ => [some (.bytes ((pre ++ dt).toArray) 0), some (.int pre.length 0), some (.int fin 0), some (.none), some (.ref D), some (.int 0 0), none, none, none]) (nw2 := fun L' => tl ++ vt) (fun L' => (.loc .hd (.loc (.tl .hd) (.loc (.tl (.tl .hd)) (.loc (.tl (.tl (.tl .hd))) (.loc (.tl (.tl (.tl (.tl .hd)))) (.loc (.tl (.tl (.tl (.tl (.tl .hd))))) .nil))))))) ?_ ?_ ?_
      · intro g L3 h₁ tk₁ env' A' he hA C' N' S' kp kx' Q' E' ret rai
        have ceK : CE env' (Str.ofString "key") (L2 + 1) := ⟨.inr (by rw [he]; kernel_rfl), by rw [he]; kernel_rfl, by decide +kernel, by decide +kernel⟩
        have ceV : CE env' (Str.ofString "decode_value") (L' + 1 + 1) := ⟨.inr (by rw [he]; kernel_rfl), by rw [he]; kernel_rfl, by decide +kernel, by decide +kernel⟩
        have ceN : CE env' (Str.ofString "new_default") (L2 + 1 + 1) := ⟨.inr (by rw [he]; kernel_rfl), by rw [he]; kernel_rfl, by decide +kernel, by decide +kernel⟩
        have ceL : CE env' (Str.ofString "local_DecodeVarint") (L2 + 1 + 1 + 1 + 1) := ⟨.inr (by rw [he]; kernel_rfl), by rw [he]; kernel_rfl, by decide +kernel, by decide +kernel⟩
        have hstg : Stand _ (tl ++ vt) g := fun q hq => ⟨kp q.1 q.2 (fun hm => by
          obtain ⟨r, hr, er⟩ := List.mem_map.mp hm
          exact (hst q hq).2 r hr er) (hst q hq).1, (hst q hq).2⟩
        clear hA kp
        have gK := (hstg (L2 + 1, cellO (some (.int num t2))) (.tail _ (.tail _ (.tail _ (.tail _ (.head _)))))).1
        have gN := (hstg (L2 + 1 + 1, cellO (some (.ref 383))) (.tail _ (.tail _ (.tail _ (.tail _ (.tail _ (.head _))))))).1
        have gL := (hstg (L2 + 1 + 1 + 1 + 1, cellO (some (.ref 142))) (.tail _ (.tail _ (.tail _ (.tail _ (.tail _ (.tail _ (.tail _ (.head _))))))))).1
        have gV := (hstg (L' + 1 + 1, cellO (some (.ref fd))) (.tail _ (.tail _ (.tail _ (.tail _ (.tail _ (.tail _ (.tail _ (.tail _ (.tail _ (.tail _ (.tail _ (.tail _ (.tail _ (.tail _ (.tail _ (.head _))))))))))))))))).1
        have hcl : Stand cl (tl ++ vt) g := fun q hq => hstg q (.tail _ (.tail _ (.tail _ (.tail _ (.tail _ (.tail _ (.tail _ (.tail _ (.tail _ (.tail _ (.tail _ (.tail _ (.tail _ (.tail _ (.tail _ (.tail _ (.tail _ (hq))))))))))))))))))
        have hi : interactive env' = false := by rw [he]; rfl
        clear hstg hst he
        refine x_getlist (cK := L2 + 1) (cN := L2 + 1 + 1) (vsv := fun u => [some (.bytes (pre ++ dt).toArray 0), some (.int pre.length 0), some (.int fin 0), some .none, some (.ref D), some (.int 0 0), u, none, none]) N' C' S' Tl lo' (fun u => (.tl (.tl (.tl (.tl .hd))))) (fun u => (.tl (.tl (.tl .hd)))) (fun u u' => (.tl (.tl (.tl (.tl (.tl (.tl .hd))))))) (fun u => (.tl (.tl (.tl (.tl (.tl (.tl .hd))))))) ceK gK ceN gN fun od l n h2 tk2 hod S2 => ?_
        have e24 : raw % 2 ^ 64 = raw := Nat.mod_eq_of_lt (by omega)
        have S2' : St g L3 h2 _ _ (vt ++ [(D, od), (l, listOf its.toArray n)]) := St.comm (a := [(D, od), (l, listOf its.toArray n)]) S2
        refine x_pair (h₀ := g) (gs := gs) (dr := dr) (os := os) N' C'.hand (c_fn (a := 142) (Ev.cellH N'.kind ceL (S2'.keep gL) rfl) fun h3 tk3 s3 => sp_p ((Ev.loc N' S2' .hd).grow s3) fun v4 h4 tk4 n4 s4 => sp_p (((Ev.loc N' S2' (.tl .hd)).grow s3).grow s4) fun v5 h5 tk5 n5 s5 => sp_n ?_)
        obtain ⟨t4b, rfl⟩ := nt_bytes n4
        obtain ⟨t5, rfl⟩ := nt_int n5
        have S5 := ((S2'.grow s3).grow s4).grow s5
        have okl : VOk2 (fun raw => ((raw % 2 ^ 64 : Nat) : Int)) lo (.int raw 0) := ⟨raw, hvo, hlo10, by show Value.int (raw : Int) 0 = Value.int ((raw % 2 ^ 64 : Nat) : Int) 0; rw [e24]⟩
        refine ⟨fnAt_K C' S5 (by k_is), ?_⟩
        rcases hd.split with ⟨d2, rfl, hd2⟩ | ⟨hff2, hcut⟩
        · refine ((es_142.up (by decide)) true pre d2 lo (lo ++ d2) (.int raw 0) t4b t5 C' S5 V kx' (fun q hq => nomatch hq) okl rfl hz (fun _ T v6 t6 h6 tk6 vt6 n6 V6 S6 => ?_) (fun hf => nomatch hf)).out
          refine ⟨T, v6, _, h6, tk6, _, _, _, _, rfl, rfl, S6, .head _, (.tl (.tl (.tl (.tl (.tl (.tl (.tl .hd))))))), (.tl .hd), fun h7 tk7 S7 => ?_⟩
          rw [n6] at S7
          have S7 : St g L3 h7 _ _ ((D, od) :: (l, listOf its.toArray n) :: vt6) := (S7.drop).comm
          refine x_aug (z := (pre.length + lo.length + raw : Nat)) N' S7 (.tl (.tl (.tl (.tl (.tl (.tl (.tl .hd))))))) (Ev.loc N' S7 (.tl .hd)) (.tl (.tl (.tl (.tl (.tl (.tl (.tl .hd))))))) (fun t u s Q E q => iadd_int (by
            have : (raw : Int) + ((pre.length + lo.length : Nat) : Int) = ((pre.length + lo.length + raw : Nat) : Int) := by omega
            rw [this]; exact q)) fun h8 tk8 S8 => ?_
          refine x_if (Ts.gt (Ev.loc N' S8 (.tl (.tl (.tl (.tl (.tl (.tl (.tl .hd)))))))) (Ev.loc N' S8 (.tl (.tl .hd)))) (fun hc h9 tk9 s9 => ?_) fun hc h9 tk9 s9 => x_nil (Nx.go ?_)
          · have hlt := of_decide_eq_true hc
            refine x_raise (c := 37) N' C' (S8.grow s9) (by k_is) (by kernel_rfl) (.head _) Ev.cstr fun h10 h11 e11 tk11 s11 f11 => ?_
            exact rai.new e11 _ h10 h11 tk11 _ _ _ ((S8.grow s9).grow s11) ⟨[(D, od), (l, listOf its.toArray n)], vt6, rfl, V6, .inl ⟨by omega, od, l, n, rfl, hod⟩⟩ (.inr (.inl rfl)) f11
          · have hge := of_decide_eq_false hc
            have hfull : full = true := by
              cases full with
              | true => rfl
              | false => have := hff rfl; omega
            have hd3 := hd2 hfull
            have S9 : St g L3 h9 [Str.ofString "buffer", Str.ofString "pos", Str.ofString "end", Str.ofString "message", Str.ofString "field_dict", Str.ofString "current_depth", Str.ofString "value", Str.ofString "endpoint", Str.ofString "element"] [some (.bytes (pre ++ (lo ++ d2)).toArray 0), some (.int (pre.length + lo.length + (([] : List (List UInt8 × Value)).flatMap (·.1)).length : Nat) 0), some (.int fin 0), some .none, some (.ref D), some (.int 0 0), some (.ref l), some (.int (pre.length + lo.length + raw : Nat) 0), none] ((D, od) :: (l, listOf (its ++ []).toArray n) :: vt6) := by rw [List.append_nil]; exact S8.grow s9
            refine x_whileR rai.own (fun m h => ∃ dn td vals k vt7 u, pieces = dn ++ td ∧ m = td.length ∧ vals.map nt = dn.map (fun p => nt p.2) ∧ VTs vt7 ∧
              St g L3 h [Str.ofString "buffer", Str.ofString "pos", Str.ofString "end", Str.ofString "message", Str.ofString "field_dict", Str.ofString "current_depth", Str.ofString "value", Str.ofString "endpoint", Str.ofString "element"] [some (.bytes (pre ++ (lo ++ d2)).toArray 0), some (.int (pre.length + lo.length + (dn.flatMap (·.1)).length : Nat) 0), some (.int fin 0), some .none, some (.ref D), some (.int 0 0), some (.ref l), some (.int (pre.length + lo.length + raw : Nat) 0), u] ((D, od) :: (l, listOf (its ++ vals).toArray k) :: vt7)) (n := pieces.length) ⟨[], pieces, [], n, vt6, none, rfl, rfl, rfl, V6, S9⟩ ?_
            rintro m h10 tk10 ⟨dn, td, vals, k, vt7, u, hp, rfl, hv, V7, S10⟩
            refine ⟨_, Ts.lt (Ev.loc N' S10 (.tl .hd)) (Ev.loc N' S10 (.tl (.tl (.tl (.tl (.tl (.tl (.tl .hd)))))))), fun hc2 h11 tk11 s11 => ?_, fun hc2 h11 tk11 s11 => ?_⟩
            · have hlt := of_decide_eq_true hc2
              have S11 : St g L3 h11 _ _ (vt7 ++ [(D, od), (l, listOf (its ++ vals).toArray k)]) := St.comm (a := [(D, od), (l, listOf (its ++ vals).toArray k)]) (S10.grow s11)
              cases td with
              | nil =>
                rw [List.append_nil] at hp
                rw [hp] at hn
                omega
              | cons q td2 =>
                obtain ⟨okq, hq0⟩ := hpc q (by rw [hp]; simp)
                refine x_pair (h₀ := g) (gs := gs) (dr := dr) (os := os) N' C'.hand (c_fn (a := fd) (Ev.cellH N'.kind ceV (S11.keep gV) rfl) fun h12 tk12 s12 => sp_p ((Ev.loc N' S11 .hd).grow s12) fun v13 h13 tk13 n13 s13 => sp_p (((Ev.loc N' S11 (.tl .hd)).grow s12).grow s13) fun v14 h14 tk14 n14 s14 => sp_n ?_)
                obtain ⟨t13, rfl⟩ := nt_bytes n13
                obtain ⟨t14, rfl⟩ := nt_int n14
                have S14 := ((S11.grow s12).grow s13).grow s14
                have hb : pre ++ (lo ++ d2) = (pre ++ lo ++ dn.flatMap (·.1)) ++ (q.1 ++ (td2.flatMap (·.1) ++ post)) := by rw [hd3, hp]; simp [List.append_assoc]
                have hpn : pre.length + lo.length + (dn.flatMap (·.1)).length = (pre ++ lo ++ dn.flatMap (·.1)).length := by simp only [List.length_append]
                refine ⟨fa C' S14 (fun q hq => S14.keep (hcl q hq).1), ?_⟩
                rw [hb, hpn]
                refine (es true (pre ++ lo ++ dn.flatMap (·.1)) (td2.flatMap (·.1) ++ post) q.1 (q.1 ++ (td2.flatMap (·.1) ++ post)) q.2 t13 t14 C' S14 V7 kx' (fun r hr => ⟨S14.keep (hcl r hr).1, fun z hz => S14.apart (List.mem_append_left _ hz) (hcl r hr).1⟩) okq rfl (by rw [← hb]; exact hz) (fun _ T v15 t15 h15 tk15 vt15 n15 V15 S15 => ?_) (fun hf => nomatch hf)).out
                refine ⟨T, v15, _, h15, tk15, _, _, _, _, rfl, rfl, S15, .head _, (.tl (.tl (.tl (.tl (.tl (.tl (.tl (.tl .hd)))))))), (.tl .hd), fun h16 tk16 S16 => ?_⟩
                have S17 : St g L3 h16 _ _ ((D, od) :: (l, listOf (its ++ vals).toArray k) :: vt15) := (S16.drop).comm
                have hl2 : (pre ++ lo ++ dn.flatMap (·.1)).length + q.1.length = pre.length + lo.length + ((dn ++ [q]).flatMap (·.1)).length := by
                  simp only [List.flatMap_append, List.length_append, List.flatMap_cons, List.flatMap_nil, List.append_nil]; omega
                rw [hl2] at S17
                have hvl : vals.length = dn.length := by have := congrArg List.length hv; simpa using this
                have hpl : pieces.length = dn.length + (td2.length + 1) := by rw [hp]; simp
                refine x_append S17 (Ev.loc N' S17 (.tl (.tl (.tl (.tl (.tl (.tl .hd))))))) (Ev.loc N' S17 (.tl (.tl (.tl (.tl (.tl (.tl (.tl (.tl .hd))))))))) (fun v' => .tl .hd) (by simp only [List.size_toArray, List.length_append]; omega) (fun v18 h18 tk18 n18 S18 => x_nil (LK.go (m := td2.length) (by simp) ⟨dn ++ [q], td2, vals ++ [v18], k + 1, vt15, some (nt v15), by rw [hp]; simp, rfl, by rw [List.map_append, hv, List.map_append]; simp [n18, n15], V15, ?_⟩)) hi
                have el : (its ++ vals).toArray.push v18 = (its ++ (vals ++ [v18])).toArray := by simp
                rw [el, hb] at S18
                exact S18
            · have hge2 := of_decide_eq_false hc2
              have S11 := S10.grow s11
              have hfl : (pieces.flatMap (·.1)).length = (dn.flatMap (·.1)).length + (td.flatMap (·.1)).length := by rw [hp, List.flatMap_append, List.length_append]
              refine x_if (Ts.gt (Ev.loc N' S11 (.tl .hd)) (Ev.loc N' S11 (.tl (.tl (.tl (.tl (.tl (.tl (.tl .hd))))))))) (fun hc3 h12 tk12 s12 => ?_) fun hc3 h12 tk12 s12 => x_nil (Nx.go ?_)
              · have hlt3 := of_decide_eq_true hc3
                have htd : td = [] := by
                  cases td with
                  | nil => rfl
                  | cons q r =>
                    have h0 := (hpc q (by rw [hp]; simp)).2
                    rw [List.flatMap_cons, List.length_append] at hfl
                    rcases hn with hn | ⟨hn, _⟩ <;> omega
                subst htd
                rw [List.append_nil] at hp
                rcases hn with hn | ⟨hn, init, last, hpl, hll⟩
                · rw [hp] at hn; omega
                · have hdn : dn = init ++ [last] := by rw [← hp, hpl]
                  rw [hdn, List.map_append] at hv
                  obtain ⟨vals0, vv, rfl⟩ := snoc_of_map (b := []) (.inr hv)
                  have hv0 : vals0.map nt = init.map (fun p => nt p.2) := by
                    rw [List.map_append] at hv
                    exact (List.append_inj' hv (by simp)).1
                  have hl0 : vals0.length = init.length := by simpa using congrArg List.length hv0
                  have hl1 : pieces.length = init.length + 1 := by rw [hpl]; simp
                  have S12 := S11.grow s12
                  have el : its ++ (vals0 ++ [vv]) = (its ++ vals0) ++ [vv] := by rw [List.append_assoc]
                  rw [el] at S12
                  refine x_dellast (its := its ++ vals0) (v := vv) (n := k) S12 (Ev.loc N' S12 (.tl (.tl (.tl (.tl (.tl (.tl .hd))))))) (Ev.neg Ev.int) (.tl .hd) (by rw [List.length_append]; omega) fun h13 tk13 S13 => ?_
                  refine x_raise (c := 37) N' C' S13 (by k_is) (by kernel_rfl) (.head _) Ev.cstr fun h14 h15 e15 tk15 s15 f15 => ?_
                  exact rai.new e15 _ h14 h15 tk15 _ _ _ (S13.grow s15) ⟨[(D, od), (l, listOf (its ++ vals0).toArray (k + 1))], vt7, rfl, V7, .inr ⟨hn, init, last, vals0, hpl, hv0, od, l, k + 1, rfl, hod⟩⟩ (.inr (.inl rfl)) f15
              · have hle3 := of_decide_eq_false hc3
                have S12 := S11.grow s12
                have hraw2 : raw = (pieces.flatMap (·.1)).length := by
                  rcases hn with hn | ⟨hn, init, last, hpl, hll⟩
                  · exact hn
                  · have := last_of (hp.symm.trans hpl) (by omega)
                    omega
                have htd : td = [] := by
                  cases td with
                  | nil => rfl
                  | cons q r =>
                    have h0 := (hpc q (by rw [hp]; simp)).2
                    rw [List.flatMap_cons, List.length_append] at hfl
                    omega
                subst htd
                rw [List.append_nil] at hp
                have hpos : pre.length + lo.length + (dn.flatMap (·.1)).length = pre.length + lo.length + raw := by rw [hraw2, hp]
                rw [hpos] at S12
                refine x_ret (Ev.loc N' S12 (.tl .hd)) fun v13 h13 tk13 n13 s13 => ?_
                obtain ⟨t13, rfl⟩ := nt_int n13
                exact ret _ _ _ _ _ _ (S12.grow s13) ⟨hraw2, hfull, by omega, vals, t13, [(D, od), (l, listOf (its ++ vals).toArray k)], vt7, rfl, by rw [hv, hp], V7, ⟨od, l, k, rfl, hod⟩, rfl⟩
        · refine ((es_142.up (by decide)) false pre [] lo dt (.int raw 0) t4b t5 C' S5 V kx' (fun q hq => nomatch hq) okl hcut hz (fun hf => nomatch hf) (fun _ e g₂ m h6 tk6 vt6 F6 V6 R6 => ?_)).out
          exact rai.on e g₂ m h6 tk6 ([(D, od), (l, listOf its.toArray n)] ++ vt6) F6.comm ⟨[(D, od), (l, listOf its.toArray n)], vt6, rfl, V6, .inl ⟨hff hff2, od, l, n, rfl, hod⟩⟩ (R6.sub sub_swap2)
      · rintro v h' tk' nw ⟨h1, h2, h3, vals, t, tl2, vt2, rfl, hv, V2, ht, rfl⟩ S2
        exact k h1 h2 h3 vals t h' tk' vt2 tl2 hv V2 ht (by rw [List.append_assoc] at S2; exact S2)
      · rintro e g₂ m h' tk' nw F2 ⟨tl2, vt2, rfl, V2, hc⟩ R
        rw [List.append_assoc] at R
        rcases hc with ⟨h1, ht⟩ | ⟨h1, init, last, vals, hp, hv, ht⟩
        · exact kB h1 e g₂ m h' tk' vt2 tl2 F2.assoc V2 ht R
        · exact kC h1 e g₂ m h' tk' vt2 tl2 init last vals F2.assoc V2 hp hv ht R
    · rintro v h' tk' nw ⟨f, rfl, hf, hs, hg⟩ S'
      exact k f (nw ++ [(102, tabObj #[])]) h' tk' (fun h hq => hf h fun q h2 => hq q (List.mem_append_left _ h2)) (FD2.more hs) (GT.app hg) (by rw [List.append_assoc]; exact S')
  · rintro v h' tk' nw ⟨f, rfl, hs, hg⟩ S'
    exact k f nw h' tk' hs hg S'
end
end Mine
end
section
open PySem PySem.Spec PySem.Calls PySem.W PyProof.Rows
set_option maxRecDepth 100000
set_option maxHeartbeats 4000000
set_option linter.unusedVariables false
namespace Mine
open PySem.W.KBy in
theorem takeQ {id : String} {b : Array UInt8} {t : Tok} : Builtin.Bytes.takeBufferQuiet? id (.bytes b t) 0 = pure (some (b, none)) := by
  unfold Builtin.Bytes.takeBufferQuiet? Builtin.Bytes.takeBuffer?
  rw [special_eq look_buffer, own_buffer]
  simp only [pure_bind]
  rw [show ((0 : Int) == Builtin.Bytes.fullReadOnly) = false by decide +kernel, buffer_eq]
  rfl
theorem slot_join : Slot "bytes" "join" "bytes.join" :=
  .of (owner := "bytes") (n := "join") (by rw [typeLookup_type, builtinLookup_eq_fast]; kernel_rfl) (by decide +kernel) (by decide +kernel) (by decide +kernel)
    (by first | exact .inl (by decide +kernel) | exact .inr (by decide +kernel)) (by rw [isSubtype_type]; kernel_rfl)
theorem entry_join : entryFor table "bytes.join" = some Builtin.«bytes.join» := entryFor_of_tree (by kernel_rfl)
theorem args_join (a b : Value) : argsOk "bytes.join" ⟨[a, b], []⟩ := by unfold argsOk; kernel_rfl

theorem wp_range {M : Model} {A : Around} {E : Value → Shared → Prop} {s : Shared} {β : Type} {f : Nat → β → Sem (ForInStep β)} (st : Nat → β) (m : Nat) (hf : ∀ i, i < m → ∀ Q : ForInStep β → Shared → Prop, Q (.yield (st (i + 1))) s → wpAny M A (f i (st i)) Q E s) {Q : β → Shared → Prop} (h : Q (st m) s) : wpAny M A (forIn [0:m] (st 0) f) Q E s := by
  rw [Std.Legacy.Range.forIn_eq_forIn_range']
  have key : ∀ k i, i + k = m → wpAny M A (forIn (List.range' i k) (st i) f) Q E s := by
    intro k
    induction k with
    | zero => intro i hi; rw [List.range'_zero, List.forIn_nil]; have : i = m := by omega
              subst this; exact wpAny_pure h
    | succ k ih =>
      intro i hi
      rw [List.range'_succ, List.forIn_cons]
      exact wpAny_bind (hf i (by omega) _ (ih (i + 1) (by omega)))
  have := key m 0 (by omega)
  simpa [Std.Legacy.Range.size] using this
abbrev jV (p : Array UInt8 × Tok) : Value := .bytes p.1 p.2
theorem any_heap (l : List (Array UInt8 × Tok)) : (l.map fun p => (jV p, (none : Option Value))).any (·.1.onHeap) = false := by
  induction l with
  | nil => rfl
  | cons p r ih => rw [List.map_cons, List.any_cons, ih]; rfl
theorem joinLet {M : Model} {A : Around} {E : Value → Shared → Prop} {s : Shared} {keep : List Value} {Q : Unit → Shared → Prop} : ∀ (l : List (Array UInt8 × Tok)), Q () s → wpAny M A (Builtin.Bytes.joinLetGo (l.map fun p => (jV p, (none : Option Value))) keep) Q E s
  | [], h => wpAny_pure h
  | p :: r, h => by
    rw [List.map_cons]
    unfold Builtin.Bytes.joinLetGo
    dsimp only
    exact wpAny_bind (wpAny_letGo (joinLet r h))
theorem sum_fold (l : List (Array UInt8 × Tok)) : ∀ (z : Nat), (l.map (·.1)).toArray.foldl (fun a b => a + b.size) z = z + (l.map fun p => p.1.size).sum := by
  induction l with
  | nil => intro z; simp
  | cons p r ih => intro z; simp only [List.map_cons, List.foldl_toArray, List.foldl_cons, List.sum_cons] at ih ⊢; rw [ih]; omega
theorem run_joinL {M : Model} {A : Around} {E : Value → Shared → Prop} {s : Shared} {sep : Array UInt8} {t : Tok} {D : Addr} {n : Nat} {ps : List (Array UInt8 × Tok)} {P : Fin → Shared → Prop} (hne : ps.length ≠ 1)
    (ho : s.heap.get? D = some (listOf (ps.map jV).toArray n)) (hsz : sep.size * (ps.length - 1) + (ps.map fun p => p.1.size).sum ≤ sizeLine) (hsj : (Builtin.Bytes.joined sep (ps.map (·.1))).size ≤ sizeLine)
    (h : P (.done (.ret (.bytes (Builtin.Bytes.joined sep (ps.map (·.1))) s.toks))) { s with toks := s.toks + 1 }) :
    wpAny M A (Builtin.«bytes.join» ⟨[.bytes sep t, .ref D], []⟩) P E s := by
  unfold Builtin.«bytes.join» Builtin.Bytes.joinM
  refine wpAny_bind (wpAny_of_eq (a := (.bytes sep t, .ref D)) (by kernel_rfl) ?_)
  dsimp only
  rw [if_pos (by rfl)]
  unfold Builtin.Bytes.joinItems
  refine wpAny_bind (wpAny_bind (wpAny_typeOf (T := "list") ⟨_, ho, rfl⟩ ?_))
  rw [if_pos (by rfl)]
  refine wpAny_pure (wpAny_bind (wpAny_seqItems ho rfl ?_))
  dsimp only
  rw [if_pos (by rfl)]
  obtain ⟨l, hl⟩ : ∃ l, l = ps := ⟨_, rfl⟩
  rcases ps with _ | ⟨p, _ | ⟨q, r⟩⟩
  rotate_left
  · exact absurd rfl hne
  all_goals
    refine wpAny_bind (wp_range (β := Array (Array UInt8) × List (Value × Option Value)) (fun i => (((l.take i).map (·.1)).toArray, (l.take i).map fun p => (jV p, none))) _ (fun i hi Q hq => ?_) ?_)
    · rw [← hl] at ho hi ⊢
      clear hsz hsj h hne hl
      rw [List.size_toArray, List.length_map] at hi
      dsimp only
      refine wpAny_bind (wpAny_seqItems ho rfl ?_)
      dsimp only
      have hx : (l.map jV).toArray.getD i .none = jV l[i] := by simp [Array.getD, hi]
      rw [hx, any_heap]
      rw [if_neg (by decide)]
      refine wpAny_bind (wpAny_holding ?_)
      rw [takeQ]
      refine wpAny_pure ?_
      dsimp only
      refine wpAny_bind (wpAny_seqItems ho rfl ?_)
      dsimp only
      rw [if_neg (by simp)]
      refine wpAny_pure ?_
      have e : l.take (i + 1) = l.take i ++ [l[i]] := by rw [List.take_succ_eq_append_getElem hi]
      have e1 : ((l.take (i + 1)).map (·.1)).toArray = (((l.take i).map (·.1)).toArray).push l[i].1 := by rw [e, List.map_append, List.map_cons, List.map_nil, List.push_toArray]
      have e2 : ((l.take (i + 1)).map fun p => (jV p, (none : Option Value))) = ((l.take i).map fun p => (jV p, none)) ++ [(jV l[i], none)] := by rw [e, List.map_append, List.map_cons, List.map_nil]
      rw [e1, e2] at hq
      exact hq
    · rw [← hl] at ho hsz hsj h ⊢
      clear hne hl
      dsimp only
      have et : l.take (l.map jV).toArray.size = l := by rw [List.size_toArray, List.length_map, List.take_length]
      rw [et]
      refine wpAny_bind (wpAny_of_eq (a := sep) (by first | rfl | kernel_rfl) ?_)
      have hs2 : sep.size * ((l.map (·.1)).toArray.size - 1) = sep.size * (l.length - 1) := by simp
      rw [hs2, sum_fold]
      rw [if_neg (by unfold Builtin.Bytes.tooLong; simp; omega)]
      refine wpAny_bind (?_ : wpAny M A (mkBytes _) _ E s)
      unfold mkBytes
      rw [if_neg (by simp; omega)]
      refine wpAny_bind (wpAny_fresh (wpAny_pure ?_))
      refine wpAny_bind (wpAny_holding (wpAny_point ?_))
      refine wpAny_bind (joinLet l ?_)
      exact wpAny_pure h
theorem run_join1 {M : Model} {A : Around} {E : Value → Shared → Prop} {s : Shared} {sep : Array UInt8} {t : Tok} {D : Addr} {n : Nat} {p : Array UInt8 × Tok} {P : Fin → Shared → Prop}
    (ho : s.heap.get? D = some (listOf #[jV p] n))
    (h : P (.done (.ret (.bytes p.1 p.2))) s) :
    wpAny M A (Builtin.«bytes.join» ⟨[.bytes sep t, .ref D], []⟩) P E s := by
  unfold Builtin.«bytes.join» Builtin.Bytes.joinM
  refine wpAny_bind (wpAny_of_eq (a := (.bytes sep t, .ref D)) (by kernel_rfl) ?_)
  dsimp only
  rw [if_pos (by rfl)]
  unfold Builtin.Bytes.joinItems
  refine wpAny_bind (wpAny_bind (wpAny_typeOf (T := "list") ⟨_, ho, rfl⟩ ?_))
  rw [if_pos (by rfl)]
  refine wpAny_pure (wpAny_bind (wpAny_seqItems ho rfl ?_))
  dsimp only
  rw [if_pos (by rfl)]
  show wpAny M A (typeOf (.bytes p.1 p.2) >>= fun d => _) P E s
  refine wpAny_bind (wpAny_typeOf (typeIs_bytes s p.1 p.2) ?_)
  rw [if_pos (by rfl)]
  refine wpAny_bind (wpAny_rule (wpAny_pure ?_))
  exact h
end Mine
end
section
open PySem PySem.Spec PySem.Calls PySem.W PyProof.Rows
open LCg (NsObj ns_obj fr_but)
set_option maxRecDepth 100000
set_option maxHeartbeats 4000000
set_option linter.unusedVariables false
namespace Mine
theorem type_join : typeOf (.builtin "bytes.join") = pure (.type "method_descriptor") := by show builtinType _ = _; rw [builtinType_eq_fast]; kernel_rfl
theorem joinB_cons (sep x : List UInt8) (r : List (List UInt8)) : joinB sep (x :: r) = x ++ r.flatMap (fun y => sep ++ y) := by
  induction r generalizing x with
  | nil => simp [joinB]
  | cons y r ih => rw [joinB, ih y]; simp
theorem joinB_nil (sep : List UInt8) : joinB sep [] = [] := rfl
theorem joinB_flat (ps : List (List UInt8)) : joinB [] ps = ps.flatten := by
  cases ps with
  | nil => rfl
  | cons x r => rw [joinB_cons]; simp [List.flatMap, List.flatten]
theorem joinB_len (sep : List UInt8) (ps : List (List UInt8)) : (joinB sep ps).length = sep.length * (ps.length - 1) + (ps.map List.length).sum := by
  cases ps with
  | nil => rfl
  | cons x r =>
    rw [joinB_cons, List.length_append, List.length_cons, Nat.add_sub_cancel, List.map_cons, List.sum_cons]
    have : (r.flatMap fun y => sep ++ y).length = sep.length * r.length + (r.map List.length).sum := by
      induction r with
      | nil => rfl
      | cons y r ih => rw [List.flatMap_cons, List.length_append, ih, List.length_append, List.length_cons, List.map_cons, List.sum_cons, Nat.mul_succ]; omega
    omega
theorem joined_fold (sep : Array UInt8) : ∀ (r : List (Array UInt8)) (k : Nat) (acc : Array UInt8), 0 < k → ((r.zipIdx k).foldl (fun out (p, i) => (if i > 0 then out ++ sep else out) ++ p) acc).toList = acc.toList ++ (r.flatMap fun y => sep.toList ++ y.toList)
  | [], k, acc, _ => by simp
  | y :: r, k, acc, hk => by
    rw [List.zipIdx_cons, List.foldl_cons, joined_fold sep r (k + 1) _ (by omega)]
    simp [hk]
theorem joined_B (sep : List UInt8) (ps : List (List UInt8)) : Builtin.Bytes.joined sep.toArray (ps.map List.toArray) = (joinB sep ps).toArray := by
  unfold Builtin.Bytes.joined
  cases ps with
  | nil => rfl
  | cons x r =>
    apply Array.toList_inj.mp
    rw [List.map_cons, List.zipIdx_cons, List.foldl_cons, joined_fold _ _ _ _ (by decide), joinB_cons]
    simp [List.flatMap_map]
theorem bytes_list {ws : List Value} {ps : List (List UInt8)} (h : ws.map nt = ps.map fun p => .bytes p.toArray 0) : ∃ qs : List (Array UInt8 × Tok), ws = qs.map jV ∧ qs.map (·.1) = ps.map List.toArray := by
  induction ps generalizing ws with
  | nil => rw [List.map_nil, List.map_eq_nil_iff] at h; subst h; exact ⟨[], rfl, rfl⟩
  | cons p ps ih =>
    match ws, h with
    | a :: ws, h =>
      simp only [List.map_cons, List.cons.injEq] at h
      obtain ⟨t, rfl⟩ := nt_bytes h.1
      obtain ⟨qs, rfl, hq⟩ := ih h.2
      exact ⟨(p.toArray, t) :: qs, rfl, by rw [List.map_cons, hq]; rfl⟩

section
variable {prog : Program} {w : World} {loose : List Str} {mean : ExcName → Option Value} {mg mb : Str → Option Value} {A A₀ : Around} {env cenv : Env} {outer : List Env} {base h₀ h : Heap} {L D : Addr} {lv : Nat} {ns gl : List Str} {vs vs1 vs2 : List (Option Value)} {news nw foot rest dl tl Kp cl : List (Addr × Obj)} {x y n1 n2 : Str} {v u : Value} {p p1 p2 p3 p4 p' np cpos : Pos} {kk : Nat}
variable {gs : Array GenState} {dr : Drawn} {tk : Nat} {os : OsState} {Q E : Value → Shared → Prop} {QF : Flow → Shared → Prop} {e e1 e2 i o a b : Expr} {pos : Pos} {elts : List Expr} {rst : List Stmt} {s : Shared}

/-- bytes.join called -/
theorem c_join {sep : List UInt8} {ws : List Value} {ps : List (List UInt8)} {n : Nat} {t : Tok} (ho : h.get? D = some (listOf ws.toArray n)) (hw : ws.map nt = ps.map fun p => .bytes p.toArray 0) (hz : (joinB sep ps).length ≤ 16777216)
    (k : ∀ v' tk', nt v' = .bytes (joinB sep ps).toArray 0 → Q v' ⟨h, gs, dr, tk', os⟩) : WP prog w A (PySem.call (.builtin "bytes.join") [.bytes sep.toArray t, .ref D]) Q E ⟨h, gs, dr, tk, os⟩ := .mk (by
  obtain ⟨qs, rfl, hq⟩ := bytes_list hw
  have hl : qs.length = ps.length := by have := congrArg List.length hq; simpa using this
  have hj : Builtin.Bytes.joined sep.toArray (qs.map (·.1)) = (joinB sep ps).toArray := by rw [hq, joined_B]
  by_cases h1 : qs.length = 1
  · obtain ⟨q, rfl⟩ : ∃ q, qs = [q] := List.length_eq_one_iff.mp h1
    refine call_meets slot_join (typeIs_bytes _ _ _) entry_join (args_join _ _) (S := fun A R s => s.heap.get? D = some (listOf #[jV q] n) ∧ R (.ok (.ret (.bytes q.1 q.2))) s) (fun prog w A R s hS => run_join1 hS.1 hS.2) ⟨ho, ?_⟩
    refine k _ _ ?_
    show Value.bytes q.1 0 = _
    rw [← hj]
    simp [Builtin.Bytes.joined]
  · have hs : sep.toArray.size * (qs.length - 1) + (qs.map fun p => p.1.size).sum ≤ sizeLine := by
      rw [joinB_len] at hz
      have e : (qs.map fun p => p.1.size) = ps.map List.length := by
        have := congrArg (List.map Array.size) hq
        simpa [List.map_map, Function.comp_def] using this
      rw [e, hl, sizeLine_eq]
      simpa using hz
    refine call_meets slot_join (typeIs_bytes _ _ _) entry_join (args_join _ _) (S := fun A R s => s.heap.get? D = some (listOf (qs.map jV).toArray n) ∧ R (.ok (.ret (.bytes (Builtin.Bytes.joined sep.toArray (qs.map (·.1))) s.toks))) { s with toks := s.toks + 1 }) (fun prog w A R s hS => run_joinL h1 hS.1 hs (by rw [hj, sizeLine_eq, List.size_toArray]; exact hz) hS.2) ⟨ho, ?_⟩
    exact k _ _ (by rw [hj]; rfl))

/-- o.join(a) -/
theorem w_join {sep : List UInt8} (qo : Ev prog w A env h o (.bytes sep.toArray 0))
    (q : ∀ h2 tk', h.StaysIn h2 → WP prog w A (eval a env) (fun v s₁ => ∃ (D : Addr) (ws : List Value) (ps : List (List UInt8)) (n : Nat) (h3 : Heap) (tk3 : Nat), v = .ref D ∧ s₁ = ⟨h3, gs, dr, tk3, os⟩ ∧ h3.get? D = some (listOf ws.toArray n) ∧ ws.map nt = ps.map (fun p => .bytes p.toArray 0) ∧ (joinB sep ps).length ≤ 16777216 ∧
      ∀ v' tk', nt v' = .bytes (joinB sep ps).toArray 0 → Q v' ⟨h3, gs, dr, tk', os⟩) E ⟨h2, gs, dr, tk', os⟩)
    (he : starEach [a] env = (false, eval a env) :: starEach [] env := by rfl)
    (hc : eval (.Call (.Attribute o (Str.ofString "join") p) [a] [] p') env = (do
        let ov ← eval o env
        standAt p.atName
        let __x ← holding [ov] (getMethod ov (Str.ofString "join") (do return (← importBound o env).getD true))
        match __x with
          | (f, first) => callWith p' f first (backTo p' (starEach [a] env)) []) := by rfl) :
    WP prog w A (eval (.Call (.Attribute o (Str.ofString "join") p) [a] [] p') env) Q E ⟨h, gs, dr, tk, os⟩ := by
  refine w_meth (Ev.use' qo fun ov h2 tk2 n2 s2 => ?_) (by rw [he]; rfl) rfl he hc
  obtain ⟨t2, rfl⟩ := nt_bytes n2
  refine ⟨"bytes.join", [.bytes sep.toArray t2], getMethod_builtin (typeIs_bytes _ _ _) FB.plainAttrs_bytes slot_join type_join (fun _ e => nomatch e) ⟨rfl, rfl⟩, ?_⟩
  refine sp_i (WP.mono (q h2 tk2 s2) fun v s₁ h₁ => ?_) he
  obtain ⟨D, ws, ps, n, h3, tk3, rfl, rfl, ho, hw, hz, k⟩ := h₁
  exact (sp_n (c_join ho hw hz k)).out
end
end Mine
end
section
open PySem PySem.Spec PySem.Calls PySem.W PyProof.Rows
set_option maxRecDepth 100000
set_option maxHeartbeats 4000000
set_option linter.unusedVariables false
namespace Mine
theorem look_bb : typeLookup (.type "bytes") "__bytes__" = pure (some (.builtin "bytes.__bytes__")) := by rw [typeLookup_type, builtinLookup_eq_fast]; kernel_rfl
theorem bm_newB {prog : Program} {w : World} {A : Around} {E : Value → Shared → Prop} {s : Shared} {b : Array UInt8} {t : Tok} {Q : Value → Shared → Prop} (hQ : Q (.bytes b t) s) :
    codeAny (model prog w) A (.call (.builtin "bytes.__new__") ⟨[.type "bytes", .bytes b t], []⟩) (wants Q E) s := by
  refine codeAny_of_tree ?_
  show wpAny _ A.in1 (do checkBuiltinCall "bytes.__new__" ⟨[.type "bytes", .bytes b t], []⟩; again (.builtin "bytes.__new__" ⟨[.type "bytes", .bytes b t], []⟩)) _ _ s
  refine wpAny_bind (wpAny_of_eq (F.bm_newCall _) (wpAny_pure ⟨plainId_quiet F.bm_plain _, codeAny_builtin F.bm_entry ?_⟩))
  rw [Around.under_plainId F.bm_plain _]
  have hT : s.TypeIs (.bytes b t) "bytes" := typeIs_bytes _ _ _
  unfold Builtin.«bytes.__new__»
  refine wpAny_bind (wpAny_of_eq (a := true) rfl ?_)
  refine bm_if_false rfl ?_
  refine wpAny_bind (wpAny_of_eq F.bm_sub ?_)
  refine bm_if_false rfl ?_
  refine wpAny_bind (wpAny_of_eq (F.bm_bind _) ?_)
  refine wpAny_bind (wpAny_of_eq (a := ()) rfl ?_)
  refine wpAny_bind (wpAny_of_eq (a := ()) rfl ?_)
  refine bm_if_false rfl ?_
  refine wpAny_bind (wpAny_specialOf hT look_bb ?_)
  split
  · refine wpAny_bind (wpAny_rule ?_)
    refine wpAny_bind (wpAny_typeOf hT ?_)
    refine bm_if_true (by decide) ?_
    show wpAny _ _ (if (Value.type "bytes" == Value.type "bytes") = true then _ else _) _ _ _
    refine bm_if_true (by decide) ?_
    first
      | exact wpAny_pure hQ
      | exact wpAny_bind (wpAny_pure (wpAny_pure hQ))
  · simp_all
  · simp_all
theorem call_bytes_bytes {prog : Program} {w : World} {A : Around} {E : Value → Shared → Prop} {s : Shared} {b : Array UInt8} {t : Tok} {Q : Value → Shared → Prop} (hQ : Q (.bytes b t) s) : wpAny (model prog w) A (call (.type "bytes") [.bytes b t]) Q E s := by
  refine callType_codes (Q₁ := fun obj s₁ => s₁.TypeIs obj "bytes" ∧ Q obj s₁) F.bm_called (F.bm_typeCall _) F.entry_object_init
    (bm_newB ⟨PySem.W.typeIs_bytes _ _ _, hQ⟩) fun obj s₁ h₁ => ?_
  exact ⟨h₁.1, F.args_object_init_2 obj _, object_init_meets F.bm_called.init.lookup F.bm_called.made (by decide) prog w A.in1 _ s₁ ⟨h₁.1, rfl, h₁.2⟩⟩
end Mine
end
section
open PySem PySem.Spec PySem.Calls PySem.W PyProof.Rows
open LCg (NsObj ns_obj fr_but)
set_option maxRecDepth 100000
set_option maxHeartbeats 4000000
set_option linter.unusedVariables false
namespace Mine

section
variable {prog : Program} {w : World} {loose : List Str} {mean : ExcName → Option Value} {mg mb : Str → Option Value} {A A₀ : Around} {env cenv : Env} {outer : List Env} {base h₀ h : Heap} {L D : Addr} {lv : Nat} {ns gl ns' gl' : List Str} {vs vs1 vs2 : List (Option Value)} {news nw foot rest dl tl Kp cl : List (Addr × Obj)} {x y n1 n2 : Str} {v u : Value} {p p1 p2 p3 p4 p' np cpos : Pos} {kk : Nat}
variable {gs : Array GenState} {dr : Drawn} {tk : Nat} {os : OsState} {Q E : Value → Shared → Prop} {QF : Flow → Shared → Prop} {e e1 e2 i o a b : Expr} {pos : Pos} {elts : List Expr} {rst : List Stmt} {s : Shared}

/-- a call of a lambda -/
theorem call_e {name qual : Str} {params : Arguments} {body : Expr} {scope : Scope} {clo : List (Str × Addr)} {pm cdv ct : Value} {fo : Obj} {f : Addr} {args : Args} {binds : List (Str × Value)} {Rel : Value → List (Addr × Obj) → Prop}
    (C : Cx w loose mean mg mb A env outer A₀ base h₀ L (lv + 1)) (S : St h₀ L h ns vs (foot ++ rest))
    (ho : h.get? f = some fo) (hdat : fo.data = .func (kla_fn name qual params body scope clo pm cdv ct)) (hcd : h.CodeRec cdv qual)
    (hbind : BindsTo ⟨h, gs, dr, tk, os⟩ (kla_fn name qual params body scope clo pm cdv ct) args binds)
    (hfe : ∀ L', FnEnv (envG qual scope L' f cdv clo) L' ns' gl') {vs2 : Addr → List (Option Value)} {nw2 : Addr → List (Addr × Obj)}
    (hB : ∀ L', Bd (envG qual scope L' f cdv clo) ns' binds (ns'.map fun _ => none) (cellLed (L' + 1) (nones scope.names) ++ foot) (vs2 L') (nw2 L'))
    (hb : ∀ g L' h₁ tk₁ env' A', env' = envG qual scope L' f cdv clo → A' = A.deeper env' → Cx w loose mean mg mb A' env' (env :: outer) A base g L' lv → FnEnv env' L' ns' gl' → St g L' h₁ ns' (vs2 L') (nw2 L') →
      (∀ b o, b ∉ foot.map (·.1) → h.get? b = some o → g.get? b = some o) → ∀ (Q' E' : Value → Shared → Prop), (∀ v h' tk' ns vs news', St g L' h' ns vs news' → Rel v news' → Q' v ⟨h', gs, dr, tk', os⟩) → WP prog w A' (eval body env') Q' E' ⟨h₁, gs, dr, tk₁, os⟩)
    (k : ∀ v h' tk' news', Rel v news' → St h₀ L h' ns vs (news' ++ rest) → Q v ⟨h', gs, dr, tk', os⟩)
    (hco : scope.isCoroutine = false := by rfl) (hgen : scope.isGenerator = false := by rfl) (hk : scope.kind = .function := by rfl) :
    WP prog w A (PySem.call (.ref f) args.pos args.kw) Q E ⟨h, gs, dr, tk, os⟩ := by
  obtain ⟨m, F, hm⟩ := S.fr
  have N1 : News h₀ L h foot := fun p hp => S.nw p (List.mem_append_left _ hp)
  obtain ⟨FG, BG, st, _⟩ := groundX (s := ⟨h, gs, dr, tk, os⟩) (R := fun _ _ => True) C.below F N1 C.frames C.frame C.kind
  have nd := S.nd
  rw [List.map_append, List.nodup_append] at nd
  apply WP.mk
  with_reducible refine wpAny_call ?_
  refine kla_callFunE (fd := kla_fn name qual params body scope clo pm cdv ct) (body := body) (by have := C.depth; unfold recursionLimit; omega) ho hdat hco hgen rfl hcd (hbind _ _ _ _ ?_)
  refine (newEnvG (prog := prog) (w := w) (ns := ns') (gl := gl') hk foot (fun p hp => (N1 p hp).1) nd.1 (hfe _) (hB _) fun h₁ tk₁ Sb kb => ?_).out
  refine ⟨?_, kla_codeExpr ?_⟩
  · have z := (C.T.nolimit.keeps st)
    exact Sb.elim fun m' F' _ => z.keeps F'.keep
  have Cb : Cx w loose mean mg mb (A.deeper (envG qual scope h.objs.size f cdv clo)) (envG qual scope h.objs.size f cdv clo) (env :: outer) A base (hideAll h (foot.map (·.1))) h.objs.size lv :=
    { below := BG, frames := Around.frames_deeper C.frames, frame := rfl, kind := hk, X := C.X.keeps st, T := C.T.keeps st, hand := C.hand,
      depth := by have := C.depth; show A.depth + 1 + lv ≤ 330; omega, units := by have := C.units; show A.units + 3 + 20 * lv ≤ 8000; omega }
  exact (hb _ _ h₁ tk₁ _ _ rfl rfl Cb (hfe _) Sb (fun b o hb e => hideAll_get _ e hb) Q (fun e s' => wpAny (model prog w) (A.deeper (envG qual scope h.objs.size f cdv clo)) (leaving (envG qual scope h.objs.size f cdv clo) e) (fun _ s'' => E e s'') (fun e' s'' => E e' s'') s')
    fun v h' tk' ns2 vs2 news' S' R => k v h' tk' news' R (S'.ret F hm S.nw S.nd rfl)).out

/-- list.append, said as a value -/
theorem w_append {its : Array Value} {n : Nat} (S : St h₀ L h ns vs news) (qo : Ev prog w A env h o (.ref D)) (qe : Ev prog w A env h e v) {nw : Value → List (Addr × Obj)} (sel : ∀ v', Sel D (listOf its n) (listOf (its.push v') (n + 1)) news (nw v')) (hz : its.size ≤ 16777216)
    (k : ∀ v' h' tk', nt v' = v → St h₀ L h' ns vs (nw v') → Q .none ⟨h', gs, dr, tk', os⟩)
    (he : starEach [e] env = [(false, eval e env)] := by rfl)
    (hc : eval (.Call (.Attribute o "append" p) [e] [] p') env = (do
        let ov ← eval o env
        standAt p.atName
        let __x ← holding [ov] (getMethod ov "append" (do return (← importBound o env).getD true))
        match __x with
          | (f, first) => callWith p' f first (backTo p' (starEach [e] env)) []) := by rfl) :
    WP prog w A (eval (.Call (.Attribute o "append" p) [e] [] p') env) Q E ⟨h, gs, dr, tk, os⟩ := .mk (by
    (with_reducible refine MethodCall_ (qo.use h (stays_refl h) gs dr tk os _ _ fun v' h2 tk' e1 s2 => ?_).out hc)
    obtain rfl := nt_ref e1
    have S2 := S.grow s2
    have hm := (sel .none).mem
    refine kl_method S2.nw hm PySem.F.slot_list_append PySem.F.type_list_append ?_
    refine callWith_of (P := fun _ => True) (by rw [he]; rfl) (fun h _ => ⟨_, .inr (.inl rfl), Looks.of_pure rfl⟩) ?_
    rw [he]
    refine evalArgs_plain (spliced_cons (qe.use h2 s2 gs dr tk' os _ _ fun v' h3 tk3 e3 s3 => ?_).out)
    refine spliced_nil ⟨trivial, ?_⟩
    have S3 := S2.grow s3
    refine S3.elim fun m F back => ?_
    have ho := S3.get hm
    exact append_at ho (fun h' hs ho' => k v' h' tk3 e3 (by
      obtain ⟨pre, post, e1, e2, a, b⟩ := ((sel v').upd S3.nd).split
      rw [e2]
      rw [e1] at S3
      have z := S3.nw (D, listOf its n) (List.mem_append.mpr (.inr (.head _)))
      refine back _ _ (F.change hs z.2.1 z.2.2) (news_set S3.nw a b hs ho') ?_
      rw [← e2, (sel v').addrs, e1]
      exact S3.nd)) (hsz := by rw [sizeLine_eq]; exact hz))

/-- a lambda, its code anew -/
theorem w_lam {params : Arguments} {body : Expr} {scope : Scope} {ps : Array Value} {clos : List (Str × Addr)} {c P : Addr} {nw : Addr → List (Addr × Obj)} (N : FnEnv env L ns gl) (C : Cx w loose mean mg mb A env outer A₀ base h₀ L lv) (S : St h₀ L h ns vs news) (hdef : defaultsOf params env = ([], [])) (hcode : env.code = .ref c) (hd : CodeHd h c P)
    (sel : ∀ c', Sel P (tabObj ps) (tabObj (ps ++ #[rawInt pos.line, rawInt pos.col, .ref c'])) news (nw c')) (hcl : closureFor scope env = pure clos) (ht : TriplesOk ps.toList) (hnf : codeAmong pos ps.toList = none)
    (k : ∀ f c' oc ctv pm h' tk', (∀ h : Heap, h.get? c' = some oc → h.CodeRec (.ref c') (env.qual ++ "<lambda>")) → St h₀ L h' ns vs ((f, kla_obj "<lambda>" (env.qual ++ "<lambda>") params body scope clos pm c' ctv) :: (c', oc) :: nw c') → Q (.ref f) ⟨h', gs, dr, tk', os⟩) :
    WP prog w A (eval (.Lambda params body scope pos) env) Q E ⟨h, gs, dr, tk, os⟩ := .mk (by
  have hm := (sel 0).mem
  obtain ⟨a1, a2, a3⟩ := apartG C S hm
  have n := S.nw _ hm
  refine kla_eval hdef ?_
  refine kla_makeFunction (mg := mg) hcl N.globals a1 hcode hd n.1 ht hnf a2 a3 fun c' ctv h' tk' hx hge hlt hrec htb => ?_
  have S1 : St h₀ L h' ns vs (nw c') := S.but (sel c') (fun b o hb e => hx b o hb e) htb
  obtain ⟨c2, oc, vs2, t2, q1, q2, q3, q4⟩ := hrec
  cases q1
  have ad := (sel c').addrs
  have low : ∀ p ∈ nw c', p.1 < h.objs.size := fun p hp => by
    have : p.1 ∈ news.map (·.1) := by rw [← ad]; exact List.mem_map_of_mem hp
    obtain ⟨q, hq, e⟩ := List.mem_map.mp this
    rw [← e]; exact Heap.lt_size (S.nw q hq).1
  have S2 : St h₀ L h' ns vs ((c', oc) :: nw c') := S1.elim fun m F back => by
    have fresh : ∀ b, h.objs.size ≤ b → h₀.get? b = none := fun b hb => S.elim fun m F2 _ => Heap.get?_none_of_le (Nat.le_trans (Nat.le_of_lt (Nat.lt_of_le_of_lt F2.above F2.ns.lt)) hb)
    have hL : L < h.objs.size := S.elim fun m F2 _ => F2.ns.lt
    refine back _ _ F (fun p hp => ?_) ?_
    · rcases List.mem_cons.mp hp with rfl | hp
      · exact ⟨q2, Nat.ne_of_gt (Nat.lt_of_lt_of_le hL hge), fresh _ hge⟩
      · exact S1.nw p hp
    · refine List.nodup_cons.mpr ⟨fun q => ?_, S1.nd⟩
      obtain ⟨p, hp, e⟩ := List.mem_map.mp q
      have l := low p hp
      rw [e] at l
      exact absurd (Nat.lt_of_lt_of_le l hge) (Nat.lt_irrefl _)
  exact k _ c' oc ctv _ _ tk' (fun h2 e => ⟨c', oc, vs2, t2, rfl, e, q3, q4⟩) (S2.push _))
end
end Mine
end
section
open PySem PySem.Spec PySem.Calls PySem.W PyProof.Rows
open LCg (NsObj ns_obj fr_but)
set_option maxRecDepth 100000
set_option maxHeartbeats 4000000
set_option linter.unusedVariables false
namespace Mine

/-- a writer of octets into the list at D -/
structure WrC (prog : Program) (w : World) (f D : Addr) (cl : List (Addr × Obj)) : Prop where
  fn : ∀ h : Heap, (∀ q ∈ cl, h.get? q.1 = some q.2) → FnAt f h
  ap : ∀ q ∈ cl, q.1 ≠ D
  run : ∀ {loose : List Str} {mean : ExcName → Option Value} {mg mb : Str → Option Value} {A A₀ : Around} {env : Env} {outer : List Env} {base h₀ h : Heap} {L : Addr} {ns : List Str} {vs : List (Option Value)} {rest : List (Addr × Obj)}
    {gs : Array GenState} {dr : Drawn} {tk : Nat} {os : OsState} {Q E : Value → Shared → Prop} (its : Array Value) (n : Nat) (b : Array UInt8) (t : Tok),
    Cx w loose mean mg mb A env outer A₀ base h₀ L 3 → St h₀ L h ns vs ((D, listOf its n) :: rest) → (∀ q ∈ cl, h.get? q.1 = some q.2) → its.size ≤ 1000 →
    (∀ v' h' tk', nt v' = .bytes b 0 → St h₀ L h' ns vs ((D, listOf (its.push v') (n + 1)) :: rest) → Q .none ⟨h', gs, dr, tk', os⟩) →
    WP prog w A (PySem.call (.ref f) [.bytes b t]) Q E ⟨h, gs, dr, tk, os⟩

theorem or128 {b : Nat} (h : b < 128) : Builtin.bitOr 128 (b : Int) = ((b + 128 : Nat) : Int) := by
  have key : ∀ b : Fin 128, Builtin.bitOr 128 ((b.val : Nat) : Int) = ((b.val + 128 : Nat) : Int) := by decide +kernel
  exact key ⟨b, h⟩
theorem or_tag {n wt : Nat} (h : wt < 8) : Builtin.bitOr ((n : Int) * 2 ^ 3) (wt : Int) = ((8 * n + wt : Nat) : Int) := by
  have e : ((n : Int) * 2 ^ 3) = ((n * 2 ^ 3 : Nat) : Int) := by push_cast; rfl
  rw [e, bitOr_and]
  have : Builtin.bitAnd ((n * 2 ^ 3 : Nat) : Int) (wt : Int) = 0 := by
    unfold Builtin.bitAnd
    simp only [Int.natCast_nonneg, decide_true, Int.toNat_natCast]
    rw [Nat.and_comm, and_apart (s := 3) (by omega)]; rfl
  rw [this]
  omega

section
variable {prog : Program} {w : World} {loose : List Str} {mean : ExcName → Option Value} {mg mb : Str → Option Value} {A A₀ : Around} {env cenv : Env} {outer : List Env} {base h₀ h : Heap} {L D : Addr} {lv : Nat} {ns gl ns' gl' : List Str} {vs vs1 vs2 : List (Option Value)} {news nw foot rest dl tl Kp cl : List (Addr × Obj)} {x y n1 n2 : Str} {v u : Value} {p p1 p2 p3 p4 p' np cpos : Pos} {kk : Nat}
variable {gs : Array GenState} {dr : Drawn} {tk : Nat} {os : OsState} {Q E : Value → Shared → Prop} {QF : Flow → Shared → Prop} {e e1 e2 i o a b : Expr} {pos : Pos} {elts : List Expr} {rst : List Stmt} {s : Shared}

theorem St.name1 {P : Prop} {a : Addr} {o : Obj} {r : List (Addr × Obj)} (S : St h₀ L h ns vs ((a, o) :: r)) (k : ∀ o', o' = o → St h₀ L h ns vs ((a, o') :: r) → P) : P := k o rfl S
/-- an expression as a statement -/
theorem x_exprW (hi : interactive env = false) (q : WP prog w A (eval e env) (fun _ s₁ => WP prog w A (execs rst env) QF E s₁) E s) (hs : swapsWith e none p.line env = pure false := by rfl) : WP prog w A (execs (.Expr e p :: rst) env) QF E s :=
  x_cons (.mk (by (with_reducible refine wpAny_Expr_any ?_ hi hs); exact wpAny_mono q.out (fun _ s₁ h => h.out) fun _ _ x => x))
/-- bytes([e]) -/
theorem w_bytes1 {i : Nat} (C : Cx w loose mean mg mb A env outer A₀ base h₀ L lv) (N : FnEnv env L ns gl) (hg : Str.ofString "bytes" ∈ gl) (S : St h₀ L h ns vs news) (q : ∀ h nw, St h₀ L h ns vs nw → Ev prog w A env h e (.int i 0)) (hi : i < 256)
    (k : ∀ t h' tk', St h₀ L h' ns vs news → Q (.bytes #[i.toUInt8] t) ⟨h', gs, dr, tk', os⟩)
    (hc : eval (.Call (.Name (Str.ofString "bytes") p) [.List [e] p1] [] pos) env = (do callWith pos (← eval (.Name (Str.ofString "bytes") p) env) [] (backTo pos (starEach [.List [e] p1] env)) (backToKw pos (keywordEach [] env))) := by rfl)
    (he : starEach [e] env = (false, eval e env) :: starEach [] env := by rfl) :
    WP prog w A (eval (.Call (.Name (Str.ofString "bytes") p) [.List [e] p1] [] pos) env) Q E ⟨h, gs, dr, tk, os⟩ := by
  refine c_ty (id := "bytes") (Ev.bi N C S (by k_is) hg PyProof.Rows.Boot.«bytes» (by decide) rfl) (fun h2 tk2 s2 => ?_) (by rfl) (by rfl) hc
  have S2 := S.grow s2
  refine sp_i (w_list (ws := [.int i 0]) S2 (.cons (q _ _ S2) .nil he) (by simp) fun D ws h3 tk3 e3 S3 st3 => ?_)
  obtain ⟨b, rfl, hb⟩ := map_nt1 e3
  obtain ⟨t, rfl⟩ := nt_int hb
  refine (sp_n (call_bytes_ints (ns := [(i : Int)]) (PySem.IsL.isList (n := 0) (S3.get (.head _))) (.cons _ _ .nil) (fun n hn => by rw [List.mem_singleton.mp hn]; omega) (by rw [sizeLine_eq]; exact Nat.le_of_ble_eq_true rfl) C.hand fun h' t k' st => ?_)).out
  exact k t h' k' (S3.grow st).drop

/-- _EncodeVarint -/
theorem enc_ok {n : Nat} {f : Addr} {t : Tok} {k0 : Nat} (hn : n < 128 ^ 11) (wr : WrC prog w f D cl) (C : Cx w loose mean mg mb A env outer A₀ base h₀ L (3 + 1)) (S : St h₀ L h ns vs ([(D, listOf #[] k0)] ++ rest)) (hst : ∀ q ∈ cl, h.get? q.1 = some q.2)
    (k : ∀ v (ws : List Value) (m : Nat) h' tk', ws.map nt = (vB n).map (fun b => .bytes #[b] 0) → St h₀ L h' ns vs ([(D, listOf ws.toArray m)] ++ rest) → Q v ⟨h', gs, dr, tk', os⟩) :
    WP prog w A (PySem.call (.ref 100) [.ref f, .int n t, .bool true]) Q E ⟨h, gs, dr, tk, os⟩ := by
  refine call_g (cl := []) (foot := [(D, listOf #[] k0)]) (rest := rest) (args := ⟨[.ref f, .int n t, .bool true], []⟩) (binds := [(Str.ofString "write", .ref f), (Str.ofString "value", .int n t), (Str.ofString "unused_deterministic", .bool true)]) (Rel := fun v nw => ∃ (ws : List Value) (m : Nat), ws.map nt = (vB n).map (fun b => Value.bytes #[b] 0) ∧ nw = [(D, listOf ws.toArray m)]) (ns' := [Str.ofString "write", Str.ofString "value", Str.ofString "unused_deterministic", Str.ofString "bits"]) (gl' := [Str.ofString "bytes"]) C S (K_get C S (by k_is)) rfl (K_code C S (by k_is)) (BindsTo.of_defaults rfl (K_get C S (f := 93) (by k_is)) rfl rfl rfl) (fnEnv_ofG rfl (by decide +kernel) (by decide +kernel) (by decide +kernel) (by decide +kernel)) (vs2 := fun _ => [some (.ref f), some (.int n 0), some (.bool true), none]) (nw2 := fun L' => [(D, listOf #[] k0)]) (fun L' => (.loc .hd (.loc (.tl .hd) (.loc (.tl (.tl .hd)) .nil)))) ?_ ?_
  · intro g L' h₁ tk₁ env' A' he hA C' N' S' kp Q' E' ret
    have hi : interactive env' = false := by rw [he]; rfl
    have gst : ∀ q ∈ cl, g.get? q.1 = some q.2 := fun q hq => kp q.1 q.2 (by simpa using wr.ap q hq) (hst q hq)
    clear hA kp he
    refine x_assign N' S' (Ev.cast (v := .int (Builtin.bitAnd (n : Int) 127) 0) (u := .int (n % 128 : Nat) 0) (Ev.and (Ev.loc N' S' (.tl .hd)) Ev.int) (by rw [bitAnd_m7]; rfl)) (.tl (.tl (.tl .hd))) fun h2 tk2 S2 => ?_
    refine x_aug (z := (n / 128 : Nat)) N' S2 (.tl .hd) Ev.int (.tl .hd) (fun t u s Q E q => irshift_int (by decide) (by rw [Int.fdiv_eq_ediv_of_nonneg _ (by decide)]; exact q)) fun h3 tk3 S3 => ?_
    refine x_while (fun m h => ∃ pre ws kk, St g L' h [Str.ofString "write", Str.ofString "value", Str.ofString "unused_deterministic", Str.ofString "bits"] [some (.ref f), some (.int (m / 128 : Nat) 0), some (.bool true), some (.int (m % 128 : Nat) 0)] [(D, listOf ws.toArray kk)] ∧ ws.map nt = (pre : List UInt8).map (fun b => Value.bytes #[b] 0) ∧ pre ++ vB m = vB n) (n := n) ⟨[], [], k0, S3, rfl, rfl⟩ fun m h4 tk4 ⟨pre, ws, kk, S4, hw, hp⟩ => ?_
    have hlen := vB_len 10 n hn
    have hl : pre.length + (vB m).length = (vB n).length := by rw [← hp, List.length_append]
    have hwl : ws.length = pre.length := by have := congrArg List.length hw; simpa using this
    refine ⟨_, Ts.int (Ev.loc N' S4 (.tl .hd)), fun hc E' h5 tk5 s5 => ?_, fun hc h5 tk5 s5 => ?_⟩
    · have S5 := S4.grow s5
      have hb : ¬ m < 128 := by
        intro hm
        have : m / 128 = 0 := by omega
        rw [this] at hc
        exact absurd hc (by decide)
      refine x_exprW hi (c_fn (a := f) (Ev.loc N' S5 .hd) fun h6 tk6 s6 => sp_i (w_bytes1 (i := m % 128 + 128) C' N' (.head _) (S5.grow s6) (fun h nw S => Ev.cast (v := .int (Builtin.bitOr 128 ((m % 128 : Nat) : Int)) 0) (Ev.or Ev.int (Ev.loc N' S (.tl (.tl (.tl .hd))))) (by rw [or128 (by omega)])) (by omega) fun t7 h7 tk7 S7 => (sp_n ?_).out))
      have g7 : ∀ q ∈ cl, h7.get? q.1 = some q.2 := fun q hq => S7.keep (gst q hq)
      refine ⟨wr.fn _ g7, (wr.run ws.toArray kk _ t7 C' S7 g7 (by simp; omega) fun v8 h8 tk8 n8 S8 => ?_).out⟩
      refine x_assign N' S8 (Ev.cast (v := .int (Builtin.bitAnd ((m / 128 : Nat) : Int) 127) 0) (u := .int (m / 128 % 128 : Nat) 0) (Ev.and (Ev.loc N' S8 (.tl .hd)) Ev.int) (by rw [bitAnd_m7]; rfl)) (.tl (.tl (.tl .hd))) fun h9 tk9 S9 => ?_
      refine x_aug (z := (m / 128 / 128 : Nat)) N' S9 (.tl .hd) Ev.int (.tl .hd) (fun t u s Q E q => irshift_int (by decide) (by rw [Int.fdiv_eq_ediv_of_nonneg _ (by decide)]; exact q)) fun h10 tk10 S10 => x_nil ?_
      refine LK.go (m := m / 128) (by omega) ⟨pre ++ [(m % 128 + 128).toUInt8], ws ++ [v8], kk + 1, ?_, ?_, ?_⟩
      · rw [List.push_toArray] at S10; exact S10
      · rw [List.map_append, hw, List.map_append]; simp [n8]
      · rw [← hp, vB_big hb, List.append_assoc]; rfl
    · have S5 := S4.grow s5
      have hb : m < 128 := by
        have : ((m / 128 : Nat) : Int) = 0 := by simpa only [bne_eq_false_iff_eq] using hc
        omega
      refine x_retW (c_fn (a := f) (Ev.loc N' S5 .hd) fun h6 tk6 s6 => sp_i (w_bytes1 (i := m % 128) C' N' (.head _) (S5.grow s6) (fun h nw S => Ev.loc N' S (.tl (.tl (.tl .hd)))) (by omega) fun t7 h7 tk7 S7 => (sp_n ?_).out))
      have g7 : ∀ q ∈ cl, h7.get? q.1 = some q.2 := fun q hq => S7.keep (gst q hq)
      refine ⟨wr.fn _ g7, (wr.run ws.toArray kk _ t7 C' S7 g7 (by simp; omega) fun v8 h8 tk8 n8 S8 => ?_).out⟩
      rw [List.push_toArray] at S8
      refine ret _ _ _ _ _ _ S8 ⟨ws ++ [v8], kk + 1, ?_, rfl⟩
      rw [← hp, vB_small hb, List.map_append, hw, List.map_append, List.map_cons, n8, Nat.mod_eq_of_lt hb]
      rfl
  · rintro v h' tk' news' ⟨ws, m, hw, rfl⟩ S'
    exact k v ws m h' tk' hw S'

/-- _VarintBytes -/
theorem varb_ok {n : Nat} {t : Tok} (hn : n < 128 ^ 11) (C : Cx w loose mean mg mb A env outer A₀ base h₀ L (4 + 1)) (S : St h₀ L h ns vs ([(102, tabObj #[])] ++ rest))
    (k : ∀ t nw h' tk', GT [(102, tabObj #[])] nw → St h₀ L h' ns vs (nw ++ rest) → Q (.bytes (vB n).toArray t) ⟨h', gs, dr, tk', os⟩) :
    WP prog w A (PySem.call (.ref 107) [.int n t]) Q E ⟨h, gs, dr, tk, os⟩ := by
  refine call_g (cl := []) (foot := [(102, tabObj #[])]) (rest := rest) (args := ⟨[.int n t], []⟩) (binds := [(Str.ofString "value", .int n t)]) (Rel := fun v nw => ∃ t, v = .bytes (vB n).toArray t ∧ GT [(102, tabObj #[])] nw) (ns' := [Str.ofString "value"]) (gl' := [Str.ofString "_EncodeVarint"]) C S (K_get C S (by k_is)) rfl (K_code C S (by k_is)) (BindsTo.of_eq rfl) (fnEnv_ofG rfl (by decide +kernel) (by decide +kernel) (by decide +kernel) (by decide +kernel)) (vs2 := fun _ => [some (.int n 0)]) (nw2 := fun L' => [(L' + 1, cellO none)] ++ ([(102, tabObj #[])])) (fun L' => (.loc .hd .nil)) ?_ ?_
  · intro g L' h₁ tk₁ env' A' he hA C' N' S' kp Q' E' ret
    have hi : interactive env' = false := by rw [he]; rfl
    have hcode : env'.code = .ref 106 := by rw [he]
    have ce : CE env' (Str.ofString "pieces") (L' + 1) := ⟨.inl (by rw [he]; kernel_rfl), by rw [he]; kernel_rfl, by decide +kernel, by decide +kernel⟩
    clear hA kp
    refine x_asg (w_list (ws := []) S' .nil (by decide) fun D ws h2 tk2 e2 S2 st2 => ?_)
    obtain rfl := List.map_eq_nil_iff.mp e2
    refine st_cell N'.kind (by rw [he]; kernel_rfl) (by rw [he]; kernel_rfl) S2 (.tl .hd) fun h3 S3 => ?_
    refine x_exprW hi (c_fn (a := 100) (Ev.glob N' C' S3 (by k_is) (.head _) rfl) fun h4 tk4 s4 => ?_)
    have S4 := S3.grow s4
    refine sp_i (w_lam (clos := [(Str.ofString "pieces", L' + 1)]) N' C' S4 (by rfl) hcode (S4.elim fun m F _ => (codeHd_of_K C'.X (by kernel_rfl)).keeps F.keep) (fun c' => .tl (.tl .hd)) (closure_of (by rw [he]; kernel_rfl)) trivial rfl fun f c' oc ctv pm h5 tk5 hco S5 => ?_)
    refine (sp_p (Ev.loc N' S5 .hd) fun v6 h6 tk6 n6 s6 => sp_p Ev.cbool fun v7 h7 tk7 n7 s7 => sp_n ?_).out
    obtain ⟨t6, rfl⟩ := nt_int n6
    obtain rfl := nt_bool n7
    have S7 := (S5.grow s6).grow s7
    refine S7.name1 fun lo hlo S7 => ?_
    have wr : WrC prog w f D [(f, lo), (c', oc), (L' + 1, cellO (some (.ref D)))] := by
      have nd := S7.nd
      simp only [List.map_cons, List.map_nil, List.nodup_cons, List.mem_cons, not_or] at nd
      refine ⟨fun h q => ⟨_, _, _, _, hlo ▸ q _ (.head _)⟩, fun q hq e => ?_, ?_⟩
      · simp only [List.mem_cons, List.not_mem_nil, or_false] at hq
        rcases hq with rfl | rfl | rfl
        · exact nd.1.2.1 e
        · exact nd.2.1.1 e
        · exact nd.2.2.1.1 e.symm
      · intro loose mean mg mb A A₀ env outer base h₀ h L ns vs rest gs dr tk os Q E its n b t C S hst hz k
        have hq : env'.qual ++ Str.ofString "<lambda>" = Str.ofString "_VarintBytes.<locals>.<lambda>" := by rw [he]; kernel_rfl
        rw [hlo] at hst
        have gc := (hst _ (.tail _ (.tail _ (.head _))))
        refine call_e (lv := 2) (foot := [(D, listOf its n)]) (rest := rest) (args := ⟨[.bytes b t], []⟩) (binds := [(Str.ofString "piece", .bytes b t)]) (Rel := fun v nw => v = .none ∧ ∃ v', nt v' = .bytes b 0 ∧ nw = [(D, listOf (its.push v') (n + 1))]) (ns' := [Str.ofString "piece"]) (gl' := []) C S (hst _ (.head _)) rfl (hco _ (hst _ (.tail _ (.head _)))) (BindsTo.of_eq rfl)
          (fnEnv_ofG rfl (by decide +kernel) (by decide +kernel) (by decide +kernel) (by decide +kernel)) (vs2 := fun _ => [some (.bytes b 0)]) (nw2 := fun _ => [(D, listOf its n)]) (fun L' => .loc .hd .nil) ?_ ?_
        · intro g L2 h₁ tk₁ env2 A2 he2 hA2 C2 N2 S2 kp Q2 E2 ret
          have ce2 : CE env2 (Str.ofString "pieces") (L' + 1) := ⟨.inr (by rw [he2]; kernel_rfl), by rw [he2]; kernel_rfl, by decide +kernel, by decide +kernel⟩
          have gcm : g.get? (L' + 1) = some (cellO (some (.ref D))) := kp _ _ (by simpa using fun e => nd.2.2.1.1 e.symm) gc
          refine w_append S2 (Ev.cellH N2.kind ce2 (S2.keep gcm) rfl) (Ev.loc N2 S2 .hd) (fun v' => .hd) (by omega) (fun v' h' tk' hv S3 => ?_)
          exact ret _ _ _ _ _ _ S3 ⟨rfl, v', hv, rfl⟩
        · rintro v h' tk' nw ⟨rfl, v', hv, rfl⟩ S'
          exact k v' h' tk' hv S'
    refine ⟨fnAt_K C' S7 (by k_is), (enc_ok (k0 := 0) (rest := [(f, lo), (c', oc), (L' + 1, cellO (some (.ref D))), (102, _)]) hn wr C' (S7.re (by exact ((List.Perm.cons _ (List.Perm.swap _ _ _)).trans (List.Perm.swap _ _ _)) : List.Perm _ _)) (fun q hq => S7.get ?_) fun v8 ws m h8 tk8 hw S8 => ?_).out⟩
    · simp only [List.mem_cons, List.not_mem_nil, or_false] at hq ⊢
      rcases hq with rfl | rfl | rfl <;> simp
    · have e9 : (ws.map nt) = ((vB n).map fun b => [b]).map fun p => Value.bytes p.toArray 0 := by rw [hw, List.map_map]; rfl
      refine x_retW (w_join (sep := []) Ev.cbytes fun h9 tk9 s9 => Ev.use' (Ev.cell N'.kind ce (S8.grow s9) (.tail _ (.tail _ (.tail _ (.head _)))) rfl) fun v10 h10 tk10 n10 s10 => ?_)
      obtain rfl := nt_ref n10
      have S10 := (S8.grow s9).grow s10
      have ej : joinB [] ((vB n).map fun b => [b]) = vB n := by rw [joinB_flat]; induction vB n with | nil => rfl | cons a r ih => rw [List.map_cons, List.flatten_cons, ih]; rfl
      refine ⟨D, ws, _, m, h10, tk10, rfl, rfl, S10.get (.head _), e9, ?_, fun v11 tk11 n11 => ?_⟩
      · rw [ej]; have := vB_len 10 n hn; omega
      · rw [ej] at n11
        obtain ⟨t11, rfl⟩ := nt_bytes n11
        refine ret _ _ _ _ _ _ S10 ⟨t11, rfl, ?_⟩
        intro P ps hm
        obtain ⟨rfl, _⟩ := Prod.mk.inj (List.mem_singleton.mp hm)
        exact ⟨_, .tail _ (.tail _ (.tail _ (.tail _ (.head _))))⟩
  · rintro v h' tk' nw ⟨t, rfl, hg⟩ S'
    exact k t nw h' tk' hg S'
end
end Mine
end
section
open PySem PySem.Spec PySem.Calls PySem.W PyProof.Rows
open LCg (NsObj ns_obj fr_but)
set_option maxRecDepth 100000
set_option maxHeartbeats 4000000
set_option linter.unusedVariables false
namespace Mine

section
variable {prog : Program} {w : World} {loose : List Str} {mean : ExcName → Option Value} {mg mb : Str → Option Value} {A A₀ : Around} {env cenv : Env} {outer : List Env} {base h₀ h : Heap} {L D : Addr} {lv : Nat} {ns gl ns' gl' : List Str} {vs vs1 vs2 : List (Option Value)} {news nw foot rest dl tl Kp cl : List (Addr × Obj)} {x y n1 n2 : Str} {v u : Value} {p p1 p2 p3 p4 p' np cpos : Pos} {kk : Nat}
variable {gs : Array GenState} {dr : Drawn} {tk : Nat} {os : OsState} {Q E : Value → Shared → Prop} {QF : Flow → Shared → Prop} {e e1 e2 i o a b : Expr} {pos : Pos} {elts : List Expr} {rst : List Stmt} {s : Shared}

/-- a <= b <= c of ints -/
theorem Ts.leLe {x y z : Int} (q1 : Ev prog w A env h a (.int x 0)) (q2 : Ev prog w A env h b (.int y 0)) (q3 : Ev prog w A env h e (.int z 0)) (hm : lastMarks [.LtE, .LtE] [b, e] = false := by with_unfolding_all rfl) :
    Ts prog w A env h (.Compare a [.LtE, .LtE] [b, e] p) (decide (x ≤ y) && decide (y ≤ z)) := fun h1 s1 gs dr tk os Q E k => .mk (by
  refine isTrue_chain (q1.use h1 s1 gs dr tk os _ _ fun v2 h2 tk2 n2 s2 => ?_).out hm
  obtain ⟨t2, rfl⟩ := nt_int n2
  refine test_link (q2.use h2 (stays_trans s1 s2) gs dr tk2 os _ _ fun v3 h3 tk3 n3 s3 => ?_).out
  obtain ⟨t3, rfl⟩ := nt_int n3
  refine le_int (wpAny_truthy_bool ?_)
  by_cases hxy : x ≤ y
  · rw [decide_eq_true hxy, if_pos rfl]
    refine test_last (q3.use h3 (stays_trans s1 (stays_trans s2 s3)) gs dr tk3 os _ _ fun v4 h4 tk4 n4 s4 => ?_).out
    obtain ⟨t4, rfl⟩ := nt_int n4
    refine le_int (wpAny_truthy_bool ?_)
    rw [decide_eq_true hxy, Bool.true_and] at k
    exact k _ _ (stays_trans s2 (stays_trans s3 s4))
  · rw [decide_eq_false hxy, if_neg (by decide)]
    rw [decide_eq_false hxy, Bool.false_and] at k
    exact k _ _ (stays_trans s2 s3))

/-- PackTag -/
theorem pack_ok {n wt : Nat} {t1 t2 : Tok} (hn : n < 2 ^ 30) (hw : wt ≤ 5) (C : Cx w loose mean mg mb A env outer A₀ base h₀ L (lv + 1)) (S : St h₀ L h ns vs rest)
    (k : ∀ t h' tk', St h₀ L h' ns vs rest → Q (.int (8 * n + wt : Nat) t) ⟨h', gs, dr, tk', os⟩) : WP prog w A (PySem.call (.ref 85) [.int n t1, .int wt t2]) Q E ⟨h, gs, dr, tk, os⟩ := by
  refine call_fn (foot := []) (rest := rest) (args := ⟨[.int n t1, .int wt t2], []⟩) (binds := [(Str.ofString "field_number", .int n t1), (Str.ofString "wire_type", .int wt t2)]) (Rel := fun v nw => ∃ t, v = .int (8 * n + wt : Nat) t ∧ nw = []) (ns' := [Str.ofString "field_number", Str.ofString "wire_type"]) (gl' := [Str.ofString "_WIRETYPE_MAX", Str.ofString "TAG_TYPE_BITS"]) (vs' := [some (.int n 0), some (.int wt 0)]) C S (K_get C S (by k_is)) rfl (K_code C S (by k_is)) (BindsTo.of_eq rfl) (locs rfl) (by decide)
    (fnEnv_of rfl (by decide +kernel) (by decide +kernel) (by decide +kernel) (by decide +kernel)) (hvs_of (ps := [Str.ofString "field_number", Str.ofString "wire_type"]) (args := [.int n t1, .int wt t2]) (by decide +kernel) rfl []) ?_ ?_
  · intro g L' h₁ tk₁ env' A' he hA C' N' S' kp Q' E' ret
    clear he hA kp
    refine x_if (Ts.not (Ts.leLe Ev.int (Ev.loc N' S' (.tl .hd)) (Ev.glob N' C' S' (by k_is) (.head _) rfl))) (fun hc => ?_) fun hc h2 tk2 s2 => x_nil (Nx.go ?_)
    · exfalso
      rw [decide_eq_true (show (0 : Int) ≤ wt by omega), decide_eq_true (show (wt : Int) ≤ 5 by omega)] at hc
      cases hc
    · have S2 := S'.grow s2
      refine x_ret (Ev.cast (Ev.or (Ev.shl (Ev.loc N' S2 .hd) (Ev.glob N' C' S2 (by k_is) (.tail _ (.head _)) rfl) (by decide) (by decide) (by omega)) (Ev.loc N' S2 (.tl .hd))) (u := .int (8 * n + wt : Nat) 0) ?_) fun v3 h3 tk3 n3 s3 => ?_
      · have := or_tag (n := n) (wt := wt) (by omega)
        show Value.int (Builtin.bitOr ((n : Int) * 2 ^ 3) (wt : Int)) 0 = _
        rw [this]
      · obtain ⟨t3, rfl⟩ := nt_int n3
        exact ret _ _ _ _ _ _ (S2.grow s3) ⟨t3, rfl, rfl⟩
  · rintro v h' tk' nw ⟨t, rfl, rfl⟩ S'
    exact k t h' tk' S'

/-- TagBytes -/
theorem tag_ok {n wt : Nat} {t1 t2 : Tok} (hn : n < 2 ^ 30) (hw : wt ≤ 5) (C : Cx w loose mean mg mb A env outer A₀ base h₀ L (5 + 1)) (S : St h₀ L h ns vs ([(102, tabObj #[])] ++ rest))
    (k : ∀ t nw h' tk', GT [(102, tabObj #[])] nw → St h₀ L h' ns vs (nw ++ rest) → Q (.bytes (vB (8 * n + wt)).toArray t) ⟨h', gs, dr, tk', os⟩) : WP prog w A (PySem.call (.ref 114) [.int n t1, .int wt t2]) Q E ⟨h, gs, dr, tk, os⟩ := by
  refine call_fn (foot := [(102, tabObj #[])]) (rest := rest) (args := ⟨[.int n t1, .int wt t2], []⟩) (binds := [(Str.ofString "field_number", .int n t1), (Str.ofString "wire_type", .int wt t2)]) (Rel := fun v nw => ∃ t, v = .bytes (vB (8 * n + wt)).toArray t ∧ GT [(102, tabObj #[])] nw) (ns' := [Str.ofString "field_number", Str.ofString "wire_type"]) (gl' := [Str.ofString "bytes", Str.ofString "_VarintBytes", Str.ofString "PackTag"]) (vs' := [some (.int n 0), some (.int wt 0)]) C S (K_get C S (by k_is)) rfl (K_code C S (by k_is)) (BindsTo.of_eq rfl) (locs rfl) (by decide)
    (fnEnv_of rfl (by decide +kernel) (by decide +kernel) (by decide +kernel) (by decide +kernel)) (hvs_of (ps := [Str.ofString "field_number", Str.ofString "wire_type"]) (args := [.int n t1, .int wt t2]) (by decide +kernel) rfl []) ?_ ?_
  · intro g L' h₁ tk₁ env' A' he hA C' N' S' kp Q' E' ret
    clear he hA kp
    refine x_retW (c_ty (id := "bytes") (Ev.bi N' C' S' (by k_is) (.head _) PyProof.Rows.Boot.«bytes» (by decide) rfl) fun h2 tk2 s2 => ?_)
    refine sp_i (c_fn (a := 107) (Ev.glob N' C' (S'.grow s2) (by k_is) (.tail _ (.head _)) rfl) fun h3 tk3 s3 => ?_)
    refine sp_i (c_fn (a := 85) (Ev.glob N' C' ((S'.grow s2).grow s3) (by k_is) (.tail _ (.tail _ (.head _))) rfl) fun h4 tk4 s4 => ?_)
    have S4 := ((S'.grow s2).grow s3).grow s4
    refine sp_p (Ev.loc N' S4 .hd) fun v5 h5 tk5 n5 s5 => sp_p (Ev.loc N' (S4.grow s5) (.tl .hd)) fun v6 h6 tk6 n6 s6 => sp_n ?_
    obtain ⟨t5, rfl⟩ := nt_int n5
    obtain ⟨t6, rfl⟩ := nt_int n6
    have S6 := (S4.grow s5).grow s6
    refine ⟨fnAt_K C' S6 (by k_is), (pack_ok hn hw C' S6 fun t7 h7 tk7 S7 => (sp_n ?_).out).out⟩
    refine ⟨fnAt_K C' S7 (by k_is), (varb_ok (rest := []) (by omega) C' S7 fun t8 nw8 h8 tk8 hg S8 => (sp_n ?_).out).out⟩
    refine call_bytes_bytes ?_
    rw [List.append_nil] at S8
    exact ret _ _ _ _ _ _ S8 ⟨t8, rfl, hg⟩
  · rintro v h' tk' nw ⟨t, rfl, hg⟩ S'
    exact k t nw h' tk' hg S'
end
end Mine
end
section
open PySem PySem.Spec PySem.Calls PySem.W PyProof.Rows
open LCg (NsObj ns_obj fr_but)
set_option maxRecDepth 100000
set_option maxHeartbeats 4000000
set_option linter.unusedVariables false
namespace Mine

theorem slice_at {A B : List UInt8} {t : Nat} : ((A ++ B).drop ((some (A.length : Int)).elim 0 (clipAt (A ++ B).length))).take ((some ((A.length + t : Nat) : Int)).elim (A ++ B).length (clipAt (A ++ B).length) - (some (A.length : Int)).elim 0 (clipAt (A ++ B).length)) = B.take t := by
  simp only [Option.elim]
  have h1 : clipAt (A ++ B).length (A.length : Int) = A.length := by unfold clipAt; simp; try omega
  have h2 : clipAt (A ++ B).length ((A.length + t : Nat) : Int) = min (A.length + t) (A ++ B).length := by unfold clipAt; simp; try omega
  rw [h1, h2, List.drop_left, List.length_append]
  by_cases ht : t ≤ B.length
  · rw [Nat.min_eq_left (by omega)]
    congr 1; omega
  · rw [Nat.min_eq_right (by omega), List.take_of_length_le (by omega), List.take_of_length_le (by omega)]

section
variable {prog : Program} {w : World} {loose : List Str} {mean : ExcName → Option Value} {mg mb : Str → Option Value} {A A₀ : Around} {env cenv : Env} {outer : List Env} {base h₀ h : Heap} {L D : Addr} {lv : Nat} {ns gl : List Str} {vs vs1 vs2 : List (Option Value)} {news nw foot rest dl tl Kp cl : List (Addr × Obj)} {x y n1 n2 : Str} {v u : Value} {p p1 p2 p3 p4 p' np cpos : Pos} {kk : Nat}
variable {gs : Array GenState} {dr : Drawn} {tk : Nat} {os : OsState} {Q E : Value → Shared → Prop} {QF : Flow → Shared → Prop} {e e1 e2 i o a b : Expr} {pos : Pos} {elts : List Expr} {rst : List Stmt} {s : Shared}

theorem Ts.neB {xs ys : List UInt8} (ql : Ev prog w A env h e1 (.bytes xs.toArray 0)) (qr : Ev prog w A env h e2 (.bytes ys.toArray 0)) : Ts prog w A env h (.Compare e1 [.NotEq] [e2] p) (xs != ys) := Ts.cmp ql qr (fun v' u' h1 gs dr tk os Q E _ n1 n2 q => by
  obtain ⟨t, rfl⟩ := nt_bytes n1
  obtain ⟨t', rfl⟩ := nt_bytes n2
  exact .mk (ne_bytes (by simpa using q _ _ (stays_refl h1)))) (bim rfl rfl _)


/-- _SimpleDecoder -/
theorem simple_mk1 {wt : Nat} {fd : Addr} {Ok : List UInt8 → Value → Prop} {t : Tok} (hwt : wt ≤ 5) (C : Cx w loose mean mg mb A env outer A₀ base h₀ L (lv + 2)) (S : St h₀ L h ns vs ((165, tabObj #[]) :: cl ++ rest)) (es : ES prog w 7 fd cl Ok) (fa : FA prog w 7 fd cl)
    (k : ∀ f sl h' tk', SPC prog w 1 f sl wt Ok → GT ((165, tabObj #[]) :: cl) sl → St h₀ L h' ns vs (sl ++ rest) → Q (.ref f) ⟨h', gs, dr, tk', os⟩) :
    WP prog w A (PySem.call (.ref 170) [.int wt t, .ref fd]) Q E ⟨h, gs, dr, tk, os⟩ := by
  refine call_g (cl := []) (foot := (165, tabObj #[]) :: cl) (rest := rest) (args := ⟨[.int wt t, .ref fd], []⟩) (binds := [(Str.ofString "wire_type", .int wt t), (Str.ofString "decode_value", .ref fd)]) (Rel := fun v nw => ∃ f, v = .ref f ∧ SPC prog w 1 f nw wt Ok ∧ GT ((165, tabObj #[]) :: cl) nw) (ns' := [Str.ofString "SpecificDecoder"]) (gl' := []) C S (K_get C S (by k_is)) rfl (K_code C S (by k_is)) (BindsTo.of_eq rfl) (fnEnv_ofG rfl (by decide +kernel) (by decide +kernel) (by decide +kernel) (by decide +kernel)) (vs2 := fun _ => [none]) (nw2 := fun L' => [(L' + 1, cellO (some (.int wt t))), (L' + 1 + 1, cellO (some (.ref fd)))] ++ ((165, tabObj #[]) :: cl)) (fun L' => (.cel (by kernel_rfl) (by kernel_rfl) .hd (.cel (by kernel_rfl) (by kernel_rfl) (.tl .hd) .nil))) ?_ ?_
  · intro g L' h₁ tk₁ env' A' he hA C' N' S' kp Q' E' ret
    have hcode : env'.code = .ref 169 := by rw [he]
    have hq : qualnameIn env' (Str.ofString "SpecificDecoder") (Str.ofString "SpecificDecoder") = Str.ofString "_SimpleDecoder.<locals>.SpecificDecoder" := by rw [he]; kernel_rfl
    clear hA kp
    refine x_def1 rfl rfl rfl rfl ?_
    rw [hq]
    refine Ev.use' Ev.cbool fun v2 h2 tk2 n2 s2 => ?_
    obtain rfl := nt_bool n2
    refine w_mk1 (S'.grow s2) fun T h3 S3 => ?_
    refine w_tail (clos := [(Str.ofString "wire_type", L' + 1), (Str.ofString "decode_value", L' + 1 + 1)]) N' C' S3 hcode (S3.elim fun m F _ => (codeHd_of_K C'.X (by kernel_rfl)).keeps F.keep) (fun c' => .tl (.tl (.tl .hd))) (closure_of (by rw [he]; kernel_rfl)) trivial rfl fun f c' P' oc2 ctv doc pm h4 tk4 hco S4 => ?_
    refine st_loc N' S4 .hd fun h5 tk5 S5 => ?_
    refine x_ret (Ev.loc N' S5 .hd) fun v6 h6 tk6 n6 s6 => ?_
    obtain rfl := nt_ref n6
    refine ret _ _ _ _ _ _ (S5.grow s6) ⟨f, rfl, ?_, (GT.sub fun q hq => (.tail _ (.tail _ (.tail _ (hq))))).trans ((GT.sel (.tl (.tl (.tl .hd)))).trans (GT.sub fun q hq => (.tail _ (.tail _ (.tail _ (hq))))))⟩
    refine (fun sl hsl => ?_ : ∀ sl, sl = _ → SPC prog w 1 f sl wt Ok) _ rfl
    refine ⟨fun h q => ⟨_, _, _, _, q _ (by rw [hsl]; exact .head _)⟩, ?_⟩
    intro loose mean mg mb A A₀ env outer base h₀ h L ns vs vt rest Kp gs dr tk os Q E num clr t1 t2 hnum C S k
    have S : St h₀ L h ns vs (((102, tabObj #[]) :: sl) ++ rest) := S.re List.perm_middle
    rw [hsl] at S
    refine call_g (cl := [(Str.ofString "wire_type", L' + 1), (Str.ofString "decode_value", L' + 1 + 1)]) (foot := _) (rest := rest) (args := ⟨[.int num t1, .bool true, .bool false, .int num t2, .ref 383, .bool clr], []⟩) (binds := [(Str.ofString "field_number", .int num t1), (Str.ofString "is_repeated", .bool true), (Str.ofString "is_packed", .bool false), (Str.ofString "key", .int num t2), (Str.ofString "new_default", .ref 383), (Str.ofString "clear_if_default", .bool clr)]) (Rel := fun v nw => ∃ f, v = .ref f ∧ (∀ h : Heap, (∀ q ∈ nw, h.get? q.1 = some q.2) → FnAt f h) ∧ FD1 prog w 8 f nw num (vB (8 * num + wt)) Ok ∧ GT ((102, tabObj #[]) :: sl) nw) (ns' := [Str.ofString "field_number", Str.ofString "is_repeated", Str.ofString "is_packed", Str.ofString "DecodePackedField", Str.ofString "DecodeRepeatedField", Str.ofString "DecodeField"]) (gl' := [Str.ofString "TagBytes", Str.ofString "len"]) C S (S.get (.tail _ (.head _))) rfl (hco _ (S.get (.tail _ (.tail _ (.head _))))).2 (kdv_binds S.nw (.tail _ (.tail _ (.tail _ (.tail _ (.head _))))) rfl rfl rfl) (fnEnv_ofG rfl (by decide +kernel) (by decide +kernel) (by decide +kernel) (by decide +kernel)) (vs2 := fun _ => [some (.int num 0), some (.bool true), some (.bool false), none, none, none]) (nw2 := fun L' => [(L' + 1, cellO (some (.int num t2))), (L' + 1 + 1, cellO (some (.ref 383))), (L' + 1 + 1 + 1, cellO (some (.bool clr))), (L' + 1 + 1 + 1 + 1, cellO none), (L' + 1 + 1 + 1 + 1 + 1, cellO none), (L' + 1 + 1 + 1 + 1 + 1 + 1, cellO none)] ++ (_)) (fun L' => (.loc .hd (.loc (.tl .hd) (.loc (.tl (.tl .hd)) (.cel (by kernel_rfl) (by kernel_rfl) .hd (.cel (by kernel_rfl) (by kernel_rfl) (.tl .hd) (.cel (by kernel_rfl) (by kernel_rfl) (.tl (.tl .hd)) .nil))))))) ?_ ?_
    · intro g L2 h₁ tk₁ env' A' he hA C' N' S' kp Q' E' ret
      have hcode : env'.code = .ref c' := by rw [he]
      have hq : qualnameIn env' (Str.ofString "DecodeRepeatedField") (Str.ofString "DecodeRepeatedField") = Str.ofString "_SimpleDecoder.<locals>.SpecificDecoder.<locals>.DecodeRepeatedField" := by rw [he]; kernel_rfl
      have ceW : CE env' (Str.ofString "wire_type") (L' + 1) := ⟨.inr (by rw [he]; kernel_rfl), by rw [he]; kernel_rfl, by decide +kernel, by decide +kernel⟩
      have ceB : CE env' (Str.ofString "tag_bytes") (L2 + 1 + 1 + 1 + 1 + 1) := ⟨.inl (by rw [he]; kernel_rfl), by rw [he]; kernel_rfl, by decide +kernel, by decide +kernel⟩
      clear hA kp
      refine x_if (Ts.bool (Ev.loc N' S' (.tl (.tl .hd)))) (fun hc => absurd hc (by decide)) fun _ h2 tk2 s2 => ?_
      have S2 := S'.grow s2
      refine x_if (Ts.bool (Ev.loc N' S2 (.tl .hd))) (fun _ h3 tk3 s3 => ?_) fun hc => absurd hc (by decide)
      have S3 := S2.grow s3
      refine x_asg (c_fn (a := 114) (Ev.glob N' C' S3 (by k_is) (.head _) rfl) fun h4 tk4 s4 => ?_)
      have S4 := S3.grow s4
      refine sp_p (Ev.loc N' S4 .hd) fun v5 h5 tk5 n5 s5 => sp_p (Ev.cell N'.kind ceW (S4.grow s5) (.tail _ (.tail _ (.tail _ (.tail _ (.tail _ (.tail _ (.tail _ (.tail _ (.tail _ (.tail _ (.tail _ (.head _)))))))))))) rfl) fun v6 h6 tk6 n6 s6 => sp_n ?_
      obtain ⟨t5, rfl⟩ := nt_int n5
      obtain ⟨t6, rfl⟩ := nt_int n6
      have S6 := (S4.grow s5).grow s6
      refine ⟨fnAt_K C' S6 (by k_is), ?_⟩
      have S6' := S6.re ((List.perm_middle (l₁ := [_, _, _, _, _, _]) : List.Perm _ _))
      refine (tag_ok hnum hwt (C'.le (by decide)) S6' fun t7 nw7 h7 tk7 hg7 S7 => ?_).out
      have htl := vB_len 10 (8 * num + wt) (by omega)
      generalize vB (8 * num + wt) = tag at htl ret ⊢
      have S7 := S7.comm
      refine st_cell N'.kind (by rw [he]; kernel_rfl) (by rw [he]; kernel_rfl) S7 (.tl (.tl (.tl (.tl .hd)))) fun h8 S8 => ?_
      refine x_asg (Ev.use' (Ev.cast (u := .int tag.length 0) (Ev.lenB (a := tag.toArray) (Ev.bi N' C' S8 (by k_is) (.tail _ (.head _)) PyProof.Rows.Boot.«len» (by decide) rfl) (Ev.cell N'.kind ceB S8 (.tail _ (.tail _ (.tail _ (.tail _ (.head _))))) rfl) (by rw [List.size_toArray]; omega)) (by rw [List.size_toArray])) fun v9 h9 tk9 n9 s9 => ?_)
      obtain ⟨t9, rfl⟩ := nt_int n9
      refine st_cell N'.kind (by rw [he]; kernel_rfl) (by rw [he]; kernel_rfl) (S8.grow s9) (.tl (.tl (.tl (.tl (.tl .hd))))) fun h10 S10 => ?_
      refine x_def1 rfl rfl rfl rfl ?_
      rw [hq]
      refine Ev.use' Ev.int fun v11 h11 tk11 n11 s11 => ?_
      obtain ⟨t11, rfl⟩ := nt_int n11
      refine w_mk1 (S10.grow s11) fun T2 h12 S12 => ?_
      refine w_tail (clos := [(Str.ofString "tag_len", L2 + 1 + 1 + 1 + 1 + 1 + 1), (Str.ofString "tag_bytes", L2 + 1 + 1 + 1 + 1 + 1), (Str.ofString "new_default", L2 + 1 + 1), (Str.ofString "key", L2 + 1), (Str.ofString "decode_value", L' + 1 + 1)]) N' C' S12 hcode ((hco h12 (S12.get (.tail _ (.tail _ (.tail _ (.tail _ (.tail _ (.tail _ (.tail _ (.tail _ (.head _))))))))))).1) (fun c' => (.tl (.tl (.tl (.tl (.tl (.tl (.tl (.tl (.tl .hd)))))))))) (closure_of (by rw [he]; kernel_rfl)) trivial rfl fun f2 c2 P2 oc3 ctv doc pm h13 tk13 hco2 S13 => ?_
      refine st_loc N' S13 (.tl (.tl (.tl (.tl .hd)))) fun h14 tk14 S14 => ?_
      refine x_ret (Ev.loc N' S14 (.tl (.tl (.tl (.tl .hd))))) fun v15 h15 tk15 n15 s15 => ?_
      obtain rfl := nt_ref n15
      refine ret _ _ _ _ _ _ (S14.grow s15) ⟨f2, rfl, fun h q => ⟨_, _, _, _, q _ (.head _)⟩, ?_, ?_⟩
      rotate_left
      · intro P ps hm
        rcases List.mem_cons.mp hm with e | hm
        · obtain ⟨ps', hp'⟩ := hg7 P ps (e ▸ .head _)
          exact ⟨ps', .tail _ (.tail _ (.tail _ (.tail _ (.tail _ (.tail _ (.tail _ (.tail _ (.tail _ (.tail _ (.tail _ (.tail _ (.tail _ (.tail _ (.tail _ (.tail _ (.tail _ (List.mem_append_right _ hp')))))))))))))))))⟩
        · rw [hsl] at hm
          obtain ⟨ps', hp'⟩ := (GT.sel (.tl (.tl .hd))) P ps hm
          exact ⟨ps', .tail _ (.tail _ (.tail _ (.tail _ (.tail _ (.tail _ (.tail _ (.tail _ (.tail _ (.tail _ (List.mem_append_left nw7 hp'))))))))))⟩
      intro loose mean mg mb A A₀ env outer base h₀ h L ns vs vt rest Kp gs dr tk os Q E full pre post dt pieces fin D its tl tb tp te C S V kx hst Tl lo' hne hpc hd hz hfin hits hover hcutf hsep kO kE
      rw [← List.append_assoc] at S
      refine call_gx (RelE := fun nw => ∃ tl2 vt2 its2, nw = tl2 ++ vt2 ∧ VTs vt2 ∧ (full = false ∨ fin < pre.length + (joinB tag (pieces.map (·.1))).length) ∧ (full = false → its2 = its) ∧ TLm prog w D num its2 tl2) (cl := [(Str.ofString "tag_len", L2 + 1 + 1 + 1 + 1 + 1 + 1), (Str.ofString "tag_bytes", L2 + 1 + 1 + 1 + 1 + 1), (Str.ofString "new_default", L2 + 1 + 1), (Str.ofString "key", L2 + 1), (Str.ofString "decode_value", L' + 1 + 1)]) (foot := tl ++ vt) (rest := rest) (args := ⟨[.bytes ((pre ++ dt).toArray) tb, .int pre.length tp, .int fin te, .none, .ref D], []⟩) (binds := [(Str.ofString "buffer", .bytes ((pre ++ dt).toArray) tb), (Str.ofString "pos", .int pre.length tp), (Str.ofString "end", .int fin te), (Str.ofString "message", .none), (Str.ofString "field_dict", .ref D), (Str.ofString "current_depth", .int 0 t11)]) (Rel := fun v nw => full = true ∧ pre.length + (joinB tag (pieces.map (·.1))).length ≤ fin ∧ ∃ vals t tl2 vt2, v = .int (pre.length + (joinB tag (pieces.map (·.1))).length : Nat) t ∧ vals.map nt = pieces.map (fun p => nt p.2) ∧ VTs vt2 ∧ TLm prog w D num (its ++ vals) tl2 ∧ nw = tl2 ++ vt2) (ns' := [Str.ofString "buffer", Str.ofString "pos", Str.ofString "end", Str.ofString "message", Str.ofString "field_dict", Str.ofString "current_depth", Str.ofString "value", Str.ofString "element", Str.ofString "new_pos"]) (gl' := [Str.ofString "DecodeError"]) C S kx (hst _ (.head _)).1 rfl (hco2 _ (hst _ (.tail _ (.head _))).1).2 (BindsTo.of_defaults rfl (hst (T2, _) (.tail _ (.tail _ (.tail _ (.head _))))).1 rfl rfl rfl) (fnEnv_ofG rfl (by decide +kernel) (by decide +kernel) (by decide +kernel) (by decide +kernel)) (vs2 := fun _ => [some (.bytes ((pre ++ dt).toArray) 0), some (.int pre.length 0), some (.int fin 0), some (.none), some (.ref D), some (.int 0 0), none, none, none]) (nw2 := fun L' => tl ++ vt) (fun L' => (.loc .hd (.loc (.tl .hd) (.loc (.tl (.tl .hd)) (.loc (.tl (.tl (.tl .hd))) (.loc (.tl (.tl (.tl (.tl .hd)))) (.loc (.tl (.tl (.tl (.tl (.tl .hd))))) .nil))))))) ?_ ?_ ?_
      · intro g L3 h₁ tk₁ env' A' he hA C' N' S' kp kx' Q' E' ret rai
        have ceK : CE env' (Str.ofString "key") (L2 + 1) := ⟨.inr (by rw [he]; kernel_rfl), by rw [he]; kernel_rfl, by decide +kernel, by decide +kernel⟩
        have ceV : CE env' (Str.ofString "decode_value") (L' + 1 + 1) := ⟨.inr (by rw [he]; kernel_rfl), by rw [he]; kernel_rfl, by decide +kernel, by decide +kernel⟩
        have ceN : CE env' (Str.ofString "new_default") (L2 + 1 + 1) := ⟨.inr (by rw [he]; kernel_rfl), by rw [he]; kernel_rfl, by decide +kernel, by decide +kernel⟩
        have ceB : CE env' (Str.ofString "tag_bytes") (L2 + 1 + 1 + 1 + 1 + 1) := ⟨.inr (by rw [he]; kernel_rfl), by rw [he]; kernel_rfl, by decide +kernel, by decide +kernel⟩
        have ceT : CE env' (Str.ofString "tag_len") (L2 + 1 + 1 + 1 + 1 + 1 + 1) := ⟨.inr (by rw [he]; kernel_rfl), by rw [he]; kernel_rfl, by decide +kernel, by decide +kernel⟩
        have hstg : Stand _ (tl ++ vt) g := fun q hq => ⟨kp q.1 q.2 (fun hm => by
          obtain ⟨r, hr, er⟩ := List.mem_map.mp hm
          exact (hst q hq).2 r hr er) (hst q hq).1, (hst q hq).2⟩
        clear hA kp
        have gK := (hstg (L2 + 1, cellO (some (.int num t2))) (.tail _ (.tail _ (.tail _ (.tail _ (.head _)))))).1
        have gN := (hstg (L2 + 1 + 1, cellO (some (.ref 383))) (.tail _ (.tail _ (.tail _ (.tail _ (.tail _ (.head _))))))).1
        have gB := (hstg (L2 + 1 + 1 + 1 + 1 + 1, cellO (some (.bytes tag.toArray t7))) (.tail _ (.tail _ (.tail _ (.tail _ (.tail _ (.tail _ (.tail _ (.tail _ (.head _)))))))))).1
        have gT := (hstg (L2 + 1 + 1 + 1 + 1 + 1 + 1, cellO (some (.int tag.length t9))) (.tail _ (.tail _ (.tail _ (.tail _ (.tail _ (.tail _ (.tail _ (.tail _ (.tail _ (.head _))))))))))).1
        have gV := (hstg (L' + 1 + 1, cellO (some (.ref fd))) (.tail _ (.tail _ (.tail _ (.tail _ (.tail _ (.tail _ (.tail _ (.tail _ (.tail _ (.tail _ (.tail _ (.tail _ (.tail _ (.tail _ (.tail _ (.head _))))))))))))))))).1
        have hcl : Stand cl (tl ++ vt) g := fun q hq => hstg q (.tail _ (.tail _ (.tail _ (.tail _ (.tail _ (.tail _ (.tail _ (.tail _ (.tail _ (.tail _ (.tail _ (.tail _ (.tail _ (.tail _ (.tail _ (.tail _ (.tail _ (List.mem_append_left nw7 hq))))))))))))))))))
        have hi : interactive env' = false := by rw [he]; rfl
        clear hstg hst he
        refine x_getlist (cK := L2 + 1) (cN := L2 + 1 + 1) (vsv := fun u => [some (.bytes (pre ++ dt).toArray 0), some (.int pre.length 0), some (.int fin 0), some .none, some (.ref D), some (.int 0 0), u, none, none]) N' C' S' Tl lo' (fun u => (.tl (.tl (.tl (.tl .hd))))) (fun u => (.tl (.tl (.tl .hd)))) (fun u u' => (.tl (.tl (.tl (.tl (.tl (.tl .hd))))))) (fun u => (.tl (.tl (.tl (.tl (.tl (.tl .hd))))))) ceK gK ceN gN fun od l n h2 tk2 hod S2 => ?_
        have S2 : St g L3 h2 [Str.ofString "buffer", Str.ofString "pos", Str.ofString "end", Str.ofString "message", Str.ofString "field_dict", Str.ofString "current_depth", Str.ofString "value", Str.ofString "element", Str.ofString "new_pos"] [some (.bytes (pre ++ dt).toArray 0), some (.int (pre.length : Nat) 0), some (.int fin 0), some .none, some (.ref D), some (.int 0 0), some (.ref l), none, none] ((D, od) :: (l, listOf (its ++ []).toArray n) :: vt) := by rw [List.append_nil]; exact S2
        refine x_whileR rai.own (fun m h => ∃ dn td vals k vt7 pre2 dt2 u1 u2, pieces = dn ++ td ∧ td ≠ [] ∧ m = td.length ∧ vals.map nt = dn.map (fun p => nt p.2) ∧ VTs vt7 ∧ (full = false → dn = []) ∧
          Dt full post (joinB tag (td.map (·.1))) dt2 ∧ pre2 ++ dt2 = pre ++ dt ∧ pre2.length + (joinB tag (td.map (·.1))).length = pre.length + (joinB tag (pieces.map (·.1))).length ∧
          St g L3 h [Str.ofString "buffer", Str.ofString "pos", Str.ofString "end", Str.ofString "message", Str.ofString "field_dict", Str.ofString "current_depth", Str.ofString "value", Str.ofString "element", Str.ofString "new_pos"] [some (.bytes (pre ++ dt).toArray 0), some (.int (pre2.length : Nat) 0), some (.int fin 0), some .none, some (.ref D), some (.int 0 0), some (.ref l), u1, u2] ((D, od) :: (l, listOf (its ++ vals).toArray k) :: vt7)) (n := pieces.length) ⟨[], pieces, [], n, vt, pre, dt, none, none, rfl, hne, rfl, rfl, V, fun _ => rfl, hd, rfl, rfl, S2⟩ ?_
        rintro m h3 tk3 ⟨dn, td, vals, kn, vt7, pre2, dt2, u1, u2, hp, htd, rfl, hv, V7, hdn, hd2, hb, hl, S3⟩
        refine ⟨_, Ts.int Ev.int, fun _ h4 tk4 s4 => ?_, fun hc => absurd hc (by decide)⟩
        cases td with
        | nil => exact absurd rfl htd
        | cons q r =>
          obtain ⟨okq, hq0⟩ := hpc q (by rw [hp]; simp)
          rw [List.map_cons, joinB_cons] at hd2 hl
          have S4 : St g L3 h4 _ _ (vt7 ++ [(D, od), (l, listOf (its ++ vals).toArray kn)]) := St.comm (a := [(D, od), (l, listOf (its ++ vals).toArray kn)]) (S3.grow s4)
          refine x_pair (h₀ := g) (gs := gs) (dr := dr) (os := os) N' C'.hand (c_fn (a := fd) (Ev.cellH N'.kind ceV (S4.keep gV) rfl) fun h5 tk5 s5 => sp_p ((Ev.loc N' S4 .hd).grow s5) fun v6 h6 tk6 n6 s6 => sp_p (((Ev.loc N' S4 (.tl .hd)).grow s5).grow s6) fun v7 h7 tk7 n7 s7 => sp_n ?_)
          obtain ⟨t6, rfl⟩ := nt_bytes n6
          obtain ⟨t7', rfl⟩ := nt_int n7
          have S7 := ((S4.grow s5).grow s6).grow s7
          refine ⟨fa C' S7 (fun q hq => S7.keep (hcl q hq).1), ?_⟩
          rw [← hb]
          rw [← hb] at S7 hz
          cases full with
          | false =>
            obtain rfl := hdn rfl
            obtain ⟨p1, hp1⟩ := hover (.inl rfl)
            have hr : r = [] := by rw [hp1] at hp; simp at hp; exact hp.2
            subst hr
            simp only [List.map_nil, List.flatMap_nil, List.append_nil] at hd2 hl
            refine (es false pre2 post q.1 dt2 q.2 t6 t7' C' S7 V7 kx' (fun r hr => ⟨S7.keep (hcl r hr).1, fun z hz => S7.apart (List.mem_append_left _ hz) (hcl r hr).1⟩) okq hd2 hz (fun hf => nomatch hf) (fun _ e g₂ m h8 tk8 vt8 F8 V8 R8 => ?_)).out
            have hv0 : vals = [] := List.map_eq_nil_iff.mp hv
            subst hv0
            exact rai.on e g₂ m h8 tk8 ([(D, od), (l, listOf (its ++ []).toArray kn)] ++ vt8) F8.comm ⟨[(D, od), (l, listOf (its ++ []).toArray kn)], vt8, its ++ [], rfl, V8, .inl rfl, fun _ => List.append_nil _, od, l, kn, rfl, hod⟩ (R8.sub sub_swap2)
          | true =>
            have hd3 : dt2 = q.1 ++ ((r.map (·.1)).flatMap (fun y => tag ++ y) ++ post) := by have : dt2 = (q.1 ++ (r.map (·.1)).flatMap (fun y => tag ++ y)) ++ post := hd2; rw [this, List.append_assoc]
            refine (es true pre2 ((r.map (·.1)).flatMap (fun y => tag ++ y) ++ post) q.1 dt2 q.2 t6 t7' C' S7 V7 kx' (fun r hr => ⟨S7.keep (hcl r hr).1, fun z hz => S7.apart (List.mem_append_left _ hz) (hcl r hr).1⟩) okq hd3 hz (fun _ T v8 t8 h8 tk8 vt8 n8 V8 S8 => ?_) (fun hf => nomatch hf)).out
            refine ⟨T, v8, _, h8, tk8, _, _, _, _, rfl, rfl, S8, .head _, (.tl (.tl (.tl (.tl (.tl (.tl (.tl .hd))))))), (.tl (.tl (.tl (.tl (.tl (.tl (.tl (.tl .hd)))))))), fun h9 tk9 S9 => ?_⟩
            obtain ⟨R, hR⟩ : ∃ R, R = (r.map (·.1)).flatMap (fun y => tag ++ y) := ⟨_, rfl⟩
            rw [← hR] at hd3 hl
            have hbuf : pre2 ++ dt2 = (pre2 ++ q.1) ++ (R ++ post) := by rw [hd3, List.append_assoc]
            have hA : pre2.length + q.1.length = (pre2 ++ q.1).length := by simp
            have S10 : St g L3 h9 [Str.ofString "buffer", Str.ofString "pos", Str.ofString "end", Str.ofString "message", Str.ofString "field_dict", Str.ofString "current_depth", Str.ofString "value", Str.ofString "element", Str.ofString "new_pos"] [some (.bytes ((pre2 ++ q.1) ++ (R ++ post)).toArray 0), some (.int (pre2.length : Nat) 0), some (.int fin 0), some .none, some (.ref D), some (.int 0 0), some (.ref l), some (nt v8), some (.int ((pre2 ++ q.1).length : Nat) 0)] ((D, od) :: (l, listOf (its ++ vals).toArray kn) :: vt8) := by rw [← hbuf, ← hA]; exact (S9.drop).comm
            rw [hbuf] at hz
            have hvl : vals.length = dn.length := by have := congrArg List.length hv; simpa using this
            have hpl : pieces.length = dn.length + (r.length + 1) := by rw [hp]; simp
            refine x_append S10 (Ev.loc N' S10 (.tl (.tl (.tl (.tl (.tl (.tl .hd))))))) (Ev.loc N' S10 (.tl (.tl (.tl (.tl (.tl (.tl (.tl .hd)))))))) (fun v' => .tl .hd) (by simp only [List.size_toArray, List.length_append]; omega) (fun v11 h11 tk11 n11 S11 => ?_) hi
            have el : (its ++ vals).toArray.push v11 = (its ++ (vals ++ [v11])).toArray := by simp
            rw [el] at S11
            have hv2 : (vals ++ [v11]).map nt = (dn ++ [q]).map (fun p => nt p.2) := by rw [List.map_append, hv, List.map_append]; simp [n11, n8]
            refine x_assign N' S11 (Ev.cast (u := .int ((pre2 ++ q.1).length + tag.length : Nat) 0) (Ev.add (Ev.loc N' S11 (.tl (.tl (.tl (.tl (.tl (.tl (.tl (.tl .hd))))))))) (Ev.cellH N'.kind ceT (S11.keep gT) rfl)) (by push_cast; rfl)) (.tl .hd) fun h12 tk12 S12 => ?_
            refine x_if (TsB.ts (TsB.or (Ts.neB (xs := (R ++ post).take tag.length) (ys := tag) (Ev.sliceB (xs := (pre2 ++ q.1) ++ (R ++ post)) (a := some ((pre2 ++ q.1).length : Int)) (b := some (((pre2 ++ q.1).length + tag.length : Nat) : Int)) (Ev.loc N' S12 .hd) (EvO.some (Ev.loc N' S12 (.tl (.tl (.tl (.tl (.tl (.tl (.tl (.tl .hd)))))))))) (EvO.some (Ev.loc N' S12 (.tl .hd))) hz slice_at) (Ev.cellH N'.kind ceB (S12.keep gB) rfl)) fun _ => TsB.or (Ts.ge (Ev.loc N' S12 (.tl (.tl (.tl (.tl (.tl (.tl (.tl (.tl .hd))))))))) (Ev.loc N' S12 (.tl (.tl .hd)))) fun _ => TsB.orN)) (fun hc h13 tk13 s13 => ?_) fun hc h13 tk13 s13 => x_nil (Nx.go (x_nil ?_))
            · have S13 := S12.grow s13
              have hr : r = [] := by
                cases r with
                | nil => rfl
                | cons q2 r2 =>
                  exfalso
                  have e1 : (R ++ post).take tag.length = tag := by rw [hR, List.map_cons, List.flatMap_cons, List.append_assoc, List.append_assoc, List.take_left]
                  rw [e1] at hc
                  have h1 : (fin : Int) ≤ ((pre2 ++ q.1).length : Nat) := by simpa using hc
                  have h2 := (hpc q2 (by rw [hp]; simp)).2
                  have h3 : q2.1.length ≤ R.length := by rw [hR, List.map_cons, List.flatMap_cons]; simp only [List.length_append]; omega
                  rw [List.length_append] at hl h1
                  obtain ⟨p1, hp1⟩ := hover (.inr (by omega))
                  rw [hp1] at hpl
                  simp at hpl
                  omega
              subst hr
              have hR0 : R = [] := hR
              subst hR0
              rw [List.append_nil] at hl
              have hp' : pieces = dn ++ [q] := by rw [hp]
              have hnp : (pre2 ++ q.1).length = pre.length + (joinB tag (pieces.map (·.1))).length := by rw [← hl, List.length_append]
              rw [hnp] at S13
              refine x_if (Ts.gt (Ev.loc N' S13 (.tl (.tl (.tl (.tl (.tl (.tl (.tl (.tl .hd))))))))) (Ev.loc N' S13 (.tl (.tl .hd)))) (fun hc2 h14 tk14 s14 => ?_) fun hc2 h14 tk14 s14 => x_nil (Nx.go ?_)
              · have hlt := of_decide_eq_true hc2
                refine x_raise (c := 37) N' C' (S13.grow s14) (by k_is) (by kernel_rfl) (.head _) Ev.cstr fun h15 h16 e16 tk16 s16 f16 => ?_
                exact rai.new e16 _ h15 h16 tk16 _ _ _ ((S13.grow s14).grow s16) ⟨[(D, od), (l, listOf (its ++ (vals ++ [v11])).toArray (kn + 1))], vt8, its ++ (vals ++ [v11]), rfl, V8, .inr (by omega), (fun hf => nomatch hf), od, l, kn + 1, rfl, hod⟩ (.inr (.inl rfl)) f16
              · have hge := of_decide_eq_false hc2
                refine x_ret (Ev.loc N' (S13.grow s14) (.tl (.tl (.tl (.tl (.tl (.tl (.tl (.tl .hd))))))))) fun v15 h15 tk15 n15 s15 => ?_
                obtain ⟨t15, rfl⟩ := nt_int n15
                exact ret _ _ _ _ _ _ ((S13.grow s14).grow s15) ⟨rfl, by omega, vals ++ [v11], t15, [(D, od), (l, listOf (its ++ (vals ++ [v11])).toArray (kn + 1))], vt8, rfl, by rw [hv2, hp'], V8, ⟨od, l, kn + 1, rfl, hod⟩, rfl⟩
            · have S13 := S12.grow s13
              cases r with
              | nil =>
                exfalso
                have hR0 : R = [] := hR
                subst hR0
                rw [List.append_nil] at hl
                rw [List.nil_append] at hc
                obtain ⟨h1, h2⟩ := (Bool.or_eq_false_iff).mp hc
                rw [Bool.or_false] at h2
                have h2 := of_decide_eq_false h2
                have h1 : post.take tag.length = tag := by simpa using h1
                rcases hsep rfl with h3 | h3
                · rw [List.length_append] at h2
                  omega
                · exact h3 h1
              | cons q2 r2 =>
                have hR2 : R = tag ++ joinB tag ((q2 :: r2).map (·.1)) := by rw [hR, List.map_cons, List.flatMap_cons, joinB_cons, List.append_assoc]
                have hbuf2 : (pre2 ++ q.1) ++ (R ++ post) = pre2 ++ dt2 := hbuf.symm
                rw [hbuf2] at S13
                refine LK.go (m := (q2 :: r2).length) (by simp) ⟨dn ++ [q], q2 :: r2, vals ++ [v11], kn + 1, vt8, (pre2 ++ q.1) ++ tag, joinB tag ((q2 :: r2).map (·.1)) ++ post, some (nt v8), some (.int ((pre2 ++ q.1).length : Nat) 0), by rw [hp]; simp, by simp, rfl, hv2, V8, (fun hf => nomatch hf), rfl, ?_, ?_, ?_⟩
                · rw [← hbuf2, hR2]; simp only [List.append_assoc]
                · rw [← hl, hR2]; simp only [List.length_append]; omega
                · rw [List.length_append (bs := tag)]
                  exact S13
      · rintro v h' tk' nw ⟨h2, h3, vals, t, tl2, vt2, rfl, hv, V2, ht, rfl⟩ S2
        exact kO h2 h3 vals t h' tk' vt2 tl2 hv V2 ht (by rw [List.append_assoc] at S2; exact S2)
      · rintro e g₂ m h' tk' nw F2 ⟨tl2, vt2, its2, rfl, V2, hc, hi, ht⟩ R
        rw [List.append_assoc] at R
        exact kE hc e g₂ m h' tk' vt2 tl2 its2 F2.assoc V2 hi ht R
    · rintro v h' tk' nw ⟨f, rfl, hf, hs, hg⟩ S'
      exact k f nw h' tk' hf hs ((GT.sub fun q hq => by
        simp only [List.mem_append, List.mem_cons, List.not_mem_nil, or_false] at hq ⊢
        exact hq.symm).trans hg) S'
  · rintro v h' tk' nw ⟨f, rfl, hs, hg⟩ S'
    exact k f nw h' tk' hs hg S'
end
end Mine
end
section
open PySem PySem.Spec PySem.Calls PySem.W PyProof.Rows
open LCg (NsObj ns_obj fr_but)
set_option maxRecDepth 100000
set_option maxHeartbeats 4000000
set_option linter.unusedVariables false
namespace Mine

section
variable {prog : Program} {w : World} {loose : List Str} {mean : ExcName → Option Value} {mg mb : Str → Option Value} {A A₀ : Around} {env cenv : Env} {outer : List Env} {base h₀ h : Heap} {L D : Addr} {lv : Nat} {ns gl : List Str} {vs vs1 vs2 : List (Option Value)} {news nw foot rest dl tl Kp cl : List (Addr × Obj)} {x y n1 n2 : Str} {v u : Value} {p p1 p2 p3 p4 p' np cpos : Pos} {kk : Nat}
variable {gs : Array GenState} {dr : Drawn} {tk : Nat} {os : OsState} {Q E : Value → Shared → Prop} {QF : Flow → Shared → Prop} {e e1 e2 i o a b : Expr} {pos : Pos} {elts : List Expr} {rst : List Stmt} {s : Shared}

theorem simple_mk {md wt : Nat} {fd : Addr} {Ok : List UInt8 → Value → Prop} {t : Tok} (hmd : md ≤ 2) (hwt : wt ≤ 5) (C : Cx w loose mean mg mb A env outer A₀ base h₀ L (lv + 2)) (S : St h₀ L h ns vs ((165, tabObj #[]) :: cl ++ rest)) (es : ES prog w 7 fd cl Ok) (fa : FA prog w 7 fd cl) (num_ok : ∀ o v, Ok o v → Num v)
    (k : ∀ f sl h' tk', SPC prog w md f sl wt Ok → GT ((165, tabObj #[]) :: cl) sl → St h₀ L h' ns vs (sl ++ rest) → Q (.ref f) ⟨h', gs, dr, tk', os⟩) :
    WP prog w A (PySem.call (.ref 170) [.int wt t, .ref fd]) Q E ⟨h, gs, dr, tk, os⟩ := by
  match md, hmd with
  | 0, _ => exact simple_mk0 C S es fa num_ok k
  | 1, _ => exact simple_mk1 hwt C S es fa k
  | 2, _ => exact simple_mk2 C S es fa num_ok k
theorem fa_142 : FA prog w 7 142 [] := fun C S _ => fnAt_K C S (by k_is)
theorem fa_149 : FA prog w 7 149 [] := fun C S _ => fnAt_K C S (by k_is)
theorem fa_156 : FA prog w 7 156 [] := fun C S _ => fnAt_K C S (by k_is)
theorem fa_163 : FA prog w 7 163 [] := fun C S _ => fnAt_K C S (by k_is)
theorem fa_92 : FA prog w 6 92 [] := fun C S _ => fnAt_K C S (by k_is)
theorem fa_279 : FA prog w 6 279 [] := fun C S _ => fnAt_K C S (by k_is)
theorem FA.le {lv lv' : Nat} {f : Addr} (q : FA prog w lv f []) (hl : lv ≤ lv') : FA prog w lv' f [] := fun C S hc => q (C.le hl) S hc
theorem St.an (S : St h₀ L h ns vs rest) : St h₀ L h ns vs (rest ++ []) := by rw [List.append_nil]; exact S
/-- what a modified number is -/
def MOk (bt : Nat) (cv : Nat → Value) (oc : List UInt8) (val : Value) : Prop := ∃ raw, VOct oc raw ∧ oc.length ≤ 10 ∧ nt val = cv (raw % 2 ^ bt)
theorem cv_nt {cv : Nat → Value} {n : Nat} {v v' : Value} (h : nt v = cv n) (h' : nt v' = cv n) : nt v = nt v' := h.trans h'.symm

/-- _ModifiedDecoder -/
theorem mod_mk {md wt bt : Nat} {fd g1 : Addr} {cv : Nat → Value} {t : Tok} (hmd : md ≤ 2) (hwt : wt ≤ 5) (hbt : bt ≤ 64) (es : ES prog w 6 fd [] (VOk2 (fun raw => ((raw % 2 ^ bt : Nat) : Int)))) (fa : FA prog w 6 fd []) (mc : MC prog w 6 g1 cv) (fg : FA prog w 6 g1 []) (num_ok : ∀ o v, MOk bt cv o v → Num v)
    (C : Cx w loose mean mg mb A env outer A₀ base h₀ L (lv + 3)) (S : St h₀ L h ns vs ([(172, tabObj #[]), (165, tabObj #[])] ++ rest))
    (k : ∀ f sl h' tk', SPC prog w md f sl wt (MOk bt cv) → GT [(172, tabObj #[]), (165, tabObj #[])] sl → St h₀ L h' ns vs (sl ++ rest) → Q (.ref f) ⟨h', gs, dr, tk', os⟩) :
    WP prog w A (PySem.call (.ref 177) [.int wt t, .ref fd, .ref g1]) Q E ⟨h, gs, dr, tk, os⟩ := by
  refine call_g (cl := []) (foot := [(172, tabObj #[]), (165, tabObj #[])]) (rest := rest) (args := ⟨[.int wt t, .ref fd, .ref g1], []⟩) (binds := [(Str.ofString "wire_type", .int wt t), (Str.ofString "decode_value", .ref fd), (Str.ofString "modify_value", .ref g1)]) (Rel := fun v nw => ∃ f, v = .ref f ∧ SPC prog w md f nw wt (MOk bt cv) ∧ GT [(172, tabObj #[]), (165, tabObj #[])] nw) (ns' := [Str.ofString "wire_type", Str.ofString "InnerDecode"]) (gl' := [Str.ofString "_SimpleDecoder"]) C S (K_get C S (by k_is)) rfl (K_code C S (by k_is)) (BindsTo.of_eq rfl) (fnEnv_ofG rfl (by decide +kernel) (by decide +kernel) (by decide +kernel) (by decide +kernel)) (vs2 := fun _ => [some (.int wt 0), none]) (nw2 := fun L' => [(L' + 1, cellO (some (.ref fd))), (L' + 1 + 1, cellO (some (.ref g1)))] ++ ([(172, tabObj #[]), (165, tabObj #[])])) (fun L' => (.loc .hd (.cel (by kernel_rfl) (by kernel_rfl) .hd (.cel (by kernel_rfl) (by kernel_rfl) (.tl .hd) .nil)))) ?_ ?_
  · intro g L' h₁ tk₁ env' A' he hA C' N' S' kp Q' E' ret
    have hcode : env'.code = .ref 176 := by rw [he]
    have hq : qualnameIn env' (Str.ofString "InnerDecode") (Str.ofString "InnerDecode") = Str.ofString "_ModifiedDecoder.<locals>.InnerDecode" := by rw [he]; kernel_rfl
    clear hA kp
    refine x_def rfl rfl rfl ?_
    rw [hq]
    refine w_mk0 (w_tail (clos := [(Str.ofString "modify_value", L' + 1 + 1), (Str.ofString "decode_value", L' + 1)]) N' C' S' hcode (S'.elim fun m F _ => (codeHd_of_K C'.X (by kernel_rfl)).keeps F.keep) (fun c' => (.tl (.tl .hd))) (closure_of (by rw [he]; kernel_rfl)) trivial rfl fun f c' P' oc2 ctv doc pm h4 tk4 hco S4 => ?_)
    refine st_loc N' S4 (.tl .hd) fun h5 tk5 S5 => ?_
    refine x_retW (c_fn (a := 170) (Ev.glob N' C' S5 (by k_is) (.head _) rfl) fun h6 tk6 s6 => ?_)
    have S6 := S5.grow s6
    refine sp_p (Ev.loc N' S6 .hd) fun v7 h7 tk7 n7 s7 => sp_p (Ev.loc N' (S6.grow s7) (.tl .hd)) fun v8 h8 tk8 n8 s8 => sp_n ?_
    obtain ⟨t7, rfl⟩ := nt_int n7
    obtain rfl := nt_ref n8
    have S8 := (S6.grow s7).grow s8
    refine S8.name1 fun lo hlo S8 => ?_
    have S9 := St.an (St.comm (a := [(f, lo), (c', oc2), (P', tabObj #[]), (L' + 1, cellO (some (.ref fd))), (L' + 1 + 1, cellO (some (.ref g1))), (172, _)]) (b := [(165, tabObj #[])]) S8)
    refine ⟨fnAt_K C' S8 (by k_is), (simple_mk (Ok := MOk bt cv) hmd hwt C' S9 ?_ (fun C S hc => ⟨_, _, _, _, hlo ▸ hc _ (.head _)⟩) num_ok fun f2 sl h10 tk10 sp hg S10 => ?_).out⟩
    · intro loose mean mg mb A A₀ env outer base h₀ h L ns vs vt rest Kp gs dr tk os Q E full pre post oc dt val tb tp C S V kx hst ok hd hz k kE
      obtain ⟨raw, hvo, hl10, hval⟩ := ok
      rw [hlo] at hst
      refine call_gx (RelE := fun nw => VTs nw ∧ full = false) (cl := [(Str.ofString "modify_value", L' + 1 + 1), (Str.ofString "decode_value", L' + 1)]) (foot := vt) (rest := rest) (args := ⟨[.bytes ((pre ++ dt).toArray) tb, .int pre.length tp], []⟩) (binds := [(Str.ofString "buffer", .bytes ((pre ++ dt).toArray) tb), (Str.ofString "pos", .int pre.length tp)]) (Rel := fun v nw => full = true ∧ ∃ T v2 t vt2, v = .ref T ∧ nt v2 = nt val ∧ VTs vt2 ∧ nw = (T, tupO [v2, .int (pre.length + oc.length : Nat) t]) :: vt2) (ns' := [Str.ofString "buffer", Str.ofString "pos", Str.ofString "result", Str.ofString "new_pos"]) (gl' := []) C S kx (hst _ (.head _)).1 rfl (hco _ (hst _ (.tail _ (.head _))).1).2 (BindsTo.of_eq rfl) (fnEnv_ofG rfl (by decide +kernel) (by decide +kernel) (by decide +kernel) (by decide +kernel)) (vs2 := fun _ => [some (.bytes ((pre ++ dt).toArray) 0), some (.int pre.length 0), none, none]) (nw2 := fun L' => vt) (fun L' => (.loc .hd (.loc (.tl .hd) .nil))) ?_ ?_ ?_
      · intro g L3 h₁ tk₁ env' A' he hA C' N' S' kp kx' Q' E' ret rai
        have ceV : CE env' (Str.ofString "decode_value") (L' + 1) := ⟨.inr (by rw [he]; kernel_rfl), by rw [he]; kernel_rfl, by decide +kernel, by decide +kernel⟩
        have ceM : CE env' (Str.ofString "modify_value") (L' + 1 + 1) := ⟨.inr (by rw [he]; kernel_rfl), by rw [he]; kernel_rfl, by decide +kernel, by decide +kernel⟩
        have hstg : Stand _ vt g := fun q hq => ⟨kp q.1 q.2 (fun hm => by
          obtain ⟨r, hr, er⟩ := List.mem_map.mp hm
          exact (hst q hq).2 r hr er) (hst q hq).1, (hst q hq).2⟩
        have gV := (hstg (L' + 1, cellO (some (.ref fd))) (.tail _ (.tail _ (.tail _ (.head _))))).1
        have gM := (hstg (L' + 1 + 1, cellO (some (.ref g1))) (.tail _ (.tail _ (.tail _ (.tail _ (.head _)))))).1
        clear hA kp he hstg hst
        refine x_pair (h₀ := g) (gs := gs) (dr := dr) (os := os) N' C'.hand (c_fn (a := fd) (Ev.cellH N'.kind ceV (S'.keep gV) rfl) fun h2 tk2 s2 => sp_p ((Ev.loc N' S' .hd).grow s2) fun v3 h3 tk3 n3 s3 => sp_p (((Ev.loc N' S' (.tl .hd)).grow s2).grow s3) fun v4 h4 tk4 n4 s4 => sp_n ?_)
        obtain ⟨t3, rfl⟩ := nt_bytes n3
        obtain ⟨t4, rfl⟩ := nt_int n4
        have S4 := ((S'.grow s2).grow s3).grow s4
        refine ⟨fa C' S4 (fun q hq => nomatch hq), (es full pre post oc dt (.int (raw % 2 ^ bt : Nat) 0) t3 t4 (rest := []) C' (by rw [List.append_nil]; exact S4) V kx' (fun q hq => nomatch hq) ⟨raw, hvo, hl10, rfl⟩ hd hz (fun hf T v5 t5 h5 tk5 vt5 n5 V5 S5 => ?_) (fun hf e g₂ m h5 tk5 vt5 F5 V5 R5 => ?_)).out⟩
        · obtain ⟨t5', rfl⟩ := nt_int n5
          refine ⟨T, .int (raw % 2 ^ bt : Nat) t5', _, h5, tk5, _, _, _, _, rfl, rfl, S5, .head _, (.tl (.tl .hd)), (.tl (.tl (.tl .hd))), fun h6 tk6 S6 => ?_⟩
          have S6 : St g L3 h6 _ _ (vt5 ++ []) := S6.drop
          rw [List.append_nil] at S6
          refine x_retW (w_pairW (h₀ := g) (L := L3) (ns := [Str.ofString "buffer", Str.ofString "pos", Str.ofString "result", Str.ofString "new_pos"]) (gs := gs) (dr := dr) (os := os) (c_fn (a := g1) (Ev.cellH N'.kind ceM (S6.keep gM) rfl) fun h7 tk7 s7 => sp_p (Ev.loc N' (S6.grow s7) (.tl (.tl .hd))) fun v8 h8 tk8 n8 s8 => sp_n ?_))
          obtain ⟨t8, rfl⟩ := nt_int n8
          have S8 := (S6.grow s7).grow s8
          have hlt : raw % 2 ^ bt < 2 ^ 64 := Nat.lt_of_lt_of_le (Nat.mod_lt _ (Nat.two_pow_pos bt)) (Nat.pow_le_pow_right (by decide) hbt)
          refine ⟨fg C' S8 (fun q hq => nomatch hq), (mc (raw % 2 ^ bt) t8 hlt C' S8 fun v9 h9 tk9 n9 S9 => ?_).out⟩
          refine ⟨h9, tk9, _, _, _, rfl, S9, Ev.loc N' S9 (.tl (.tl (.tl .hd))), fun T2 u' h10 tk10 n10 S10 => ?_⟩
          obtain ⟨t10, rfl⟩ := nt_int n10
          exact ret _ _ _ _ _ _ S10 ⟨hf, T2, v9, t10, vt5, rfl, n9.trans hval.symm, V5, rfl⟩
        · exact rai.on e g₂ m h5 tk5 vt5 F5.nil ⟨V5, hf⟩ (R5.sub fun q hq => by simpa using hq)
      · rintro v h2 tk2 nw ⟨hf, T, v2, t, vt2, rfl, hn, V2, rfl⟩ S2
        exact k hf T v2 t h2 tk2 vt2 hn V2 S2
      · rintro e g₂ m h2 tk2 nw F2 ⟨V2, hf⟩ R
        exact kE hf e g₂ m h2 tk2 nw F2 V2 R
    · rw [List.append_nil] at S10
      refine ret _ _ _ _ _ _ S10 ⟨f2, rfl, sp, ?_⟩
      intro P ps hm
      simp only [List.mem_cons, List.not_mem_nil, or_false] at hm
      rcases hm with hm | hm
      · cases hm
        exact hg 172 _ (.tail _ (.tail _ (.tail _ (.tail _ (.tail _ (.tail _ (.head _)))))))
      · cases hm
        exact hg 165 _ (.head _)
  · rintro v h' tk' nw ⟨f, rfl, hs, hg⟩ S'
    exact k f nw h' tk' hs hg S'
end
end Mine
end
section
open PySem PySem.Spec PySem.Calls PySem.W PyProof.Rows
open LCg (NsObj ns_obj fr_but)
set_option maxRecDepth 100000
set_option maxHeartbeats 4000000
set_option linter.unusedVariables false
namespace Mine

section
variable {prog : Program} {w : World} {loose : List Str} {mean : ExcName → Option Value} {mg mb : Str → Option Value} {A A₀ : Around} {env cenv : Env} {outer : List Env} {base h₀ h : Heap} {L D : Addr} {lv : Nat} {ns gl : List Str} {vs vs1 vs2 : List (Option Value)} {news nw foot rest dl tl Kp cl : List (Addr × Obj)} {x y n1 n2 : Str} {v u : Value} {p p1 p2 p3 p4 p' np cpos : Pos} {kk : Nat}
variable {gs : Array GenState} {dr : Drawn} {tk : Nat} {os : OsState} {Q E : Value → Shared → Prop} {QF : Flow → Shared → Prop} {e e1 e2 i o a b : Expr} {pos : Pos} {elts : List Expr} {rst : List Stmt} {s : Shared}

/-- an item of a tuple at a written place -/
theorem w_itemT {kd : Nat} {j : Int} (q : WP prog w A (eval o env) (fun ov s₁ => ∃ (T : Addr) (ws : List Value) (v : Value) (h : Heap) (tk : Nat) (i : Nat), ov = .ref T ∧ s₁ = ⟨h, gs, dr, tk, os⟩ ∧ h.get? T = some (tupO ws) ∧ seqIndex? j ws.length = some i ∧ ws[i]? = some v ∧ ∀ tk', Q v ⟨h, gs, dr, tk', os⟩) E s) (h0 : -(2 ^ 63) ≤ j) (h1 : j < 2 ^ 63) :
    WP prog w A (eval (.Subscript o (.Constant (.int j) kd p) p') env) Q E s := .mk (by
  (with_reducible refine Subscript_ (wpAny_mono q.out (fun ov s₁ h₁ => ?_) fun _ _ x => x))
  obtain ⟨T, ws, v, h, tk, i, rfl, rfl, eT, hi, hx, k⟩ := h₁
  (with_reducible refine wpAny_Constant_int ?_)
  have ht : IsTup h T ws.toArray := ⟨_, eT, rfl, _, rfl⟩
  exact item_tupleT (s := ⟨h, gs, dr, tk + 1, os⟩) ht h0 h1 hi hx (k _))
/-- what an unpacked number is -/
def POk (sg : Bool) (sz : Nat) (oc : List UInt8) (val : Value) : Prop := oc.length = sz ∧ nt val = .int (fval sg sz oc) 0
theorem POk.num {sg : Bool} {sz : Nat} : ∀ o v, POk sg sz o v → Num v := fun o v h => by obtain ⟨t, rfl⟩ := nt_int h.2; exact .inl ⟨_, _, rfl⟩

/-- _StructPackDecoder -/
theorem pack_mk {md wt sz : Nat} {sg : Bool} {f0 : Str} {t tf : Tok} (hmd : md ≤ 2) (hwt : wt ≤ 5) (hf0 : Fmt f0 sz sg)
    (C : Cx w loose mean mg mb A env outer A₀ base h₀ L (lv + 3)) (S : St h₀ L h ns vs ([(179, tabObj #[]), (165, tabObj #[])] ++ rest))
    (k : ∀ f sl h' tk', SPC prog w md f sl wt (POk sg sz) → GT [(179, tabObj #[]), (165, tabObj #[])] sl → St h₀ L h' ns vs (sl ++ rest) → Q (.ref f) ⟨h', gs, dr, tk', os⟩) :
    WP prog w A (PySem.call (.ref 184) [.int wt t, .str f0 tf]) Q E ⟨h, gs, dr, tk, os⟩ := by
  have hsz : sz ≤ 8 ∧ 0 < sz := by clear C S k; cases hf0 <;> decide
  refine call_g (cl := []) (foot := [(179, tabObj #[]), (165, tabObj #[])]) (rest := rest) (args := ⟨[.int wt t, .str f0 tf], []⟩) (binds := [(Str.ofString "wire_type", .int wt t), (Str.ofString "format", .str f0 tf)]) (Rel := fun v nw => ∃ f, v = .ref f ∧ SPC prog w md f nw wt (POk sg sz) ∧ GT [(179, tabObj #[]), (165, tabObj #[])] nw) (ns' := [Str.ofString "wire_type", Str.ofString "InnerDecode"]) (gl' := [Str.ofString "_calcsize", Str.ofString "_unpack", Str.ofString "_SimpleDecoder"]) C S (K_get C S (by k_is)) rfl (K_code C S (by k_is)) (BindsTo.of_eq rfl) (fnEnv_ofG rfl (by decide +kernel) (by decide +kernel) (by decide +kernel) (by decide +kernel)) (vs2 := fun _ => [some (.int wt 0), none]) (nw2 := fun L' => [(L' + 1, cellO (some (.str f0 tf))), (L' + 1 + 1, cellO none), (L' + 1 + 1 + 1, cellO none)] ++ ([(179, tabObj #[]), (165, tabObj #[])])) (fun L' => (.loc .hd (.cel (by kernel_rfl) (by kernel_rfl) .hd .nil))) ?_ ?_
  · intro g L' h₁ tk₁ env' A' he hA C' N' S' kp Q' E' ret
    have hcode : env'.code = .ref 183 := by rw [he]
    have hq : qualnameIn env' (Str.ofString "InnerDecode") (Str.ofString "InnerDecode") = Str.ofString "_StructPackDecoder.<locals>.InnerDecode" := by rw [he]; kernel_rfl
    have ceF : CE env' (Str.ofString "format") (L' + 1) := ⟨.inl (by rw [he]; kernel_rfl), by rw [he]; kernel_rfl, by decide +kernel, by decide +kernel⟩
    clear hA kp
    refine x_asg (c_fn (a := 71) (Ev.glob N' C' S' (by k_is) (.head _) rfl) fun h2 tk2 s2 => sp_p (Ev.cell N'.kind ceF (S'.grow s2) (.head _) rfl) fun v3 h3 tk3 n3 s3 => sp_n ?_)
    obtain ⟨t3, rfl⟩ := nt_str n3
    have S3 := (S'.grow s2).grow s3
    refine ⟨fnAt_K C' S3 (by k_is), (calc_ok C' S3 hf0 fun t4 h4 tk4 S4 => ?_).out⟩
    refine st_cell N'.kind (by rw [he]; kernel_rfl) (by rw [he]; kernel_rfl) S4 (.tl (.tl .hd)) fun h5 S5 => ?_
    refine x_asg (Ev.use' (Ev.glob N' C' S5 (by k_is) (.tail _ (.head _)) rfl) fun v6 h6 tk6 n6 s6 => ?_)
    obtain rfl := nt_ref n6
    refine st_cell N'.kind (by rw [he]; kernel_rfl) (by rw [he]; kernel_rfl) (S5.grow s6) (.tl .hd) fun h7 S7 => ?_
    refine x_def rfl rfl rfl ?_
    rw [hq]
    refine w_mk0 (w_tail (clos := [(Str.ofString "value_size", L' + 1 + 1 + 1), (Str.ofString "local_unpack", L' + 1 + 1), (Str.ofString "format", L' + 1)]) N' C' S7 hcode (S7.elim fun m F _ => (codeHd_of_K C'.X (by kernel_rfl)).keeps F.keep) (fun c' => (.tl (.tl (.tl .hd)))) (closure_of (by rw [he]; kernel_rfl)) trivial rfl fun f c' P' oc2 ctv doc pm h8 tk8 hco S8 => ?_)
    refine st_loc N' S8 (.tl .hd) fun h9 tk9 S9 => ?_
    refine x_retW (c_fn (a := 170) (Ev.glob N' C' S9 (by k_is) (.tail _ (.tail _ (.head _))) rfl) fun h10 tk10 s10 => ?_)
    have S10 := S9.grow s10
    refine sp_p (Ev.loc N' S10 .hd) fun v11 h11 tk11 n11 s11 => sp_p (Ev.loc N' (S10.grow s11) (.tl .hd)) fun v12 h12 tk12 n12 s12 => sp_n ?_
    obtain ⟨t11, rfl⟩ := nt_int n11
    obtain rfl := nt_ref n12
    have S12 := (S10.grow s11).grow s12
    refine S12.name1 fun lo hlo S12 => ?_
    have S13 := St.an (St.comm (a := [(f, lo), (c', oc2), (P', tabObj #[]), (L' + 1, cellO (some (.str f0 tf))), (L' + 1 + 1, cellO (some (.ref 78))), (L' + 1 + 1 + 1, cellO (some (.int sz t4))), (179, _)]) (b := [(165, tabObj #[])]) S12)
    refine ⟨fnAt_K C' S12 (by k_is), (simple_mk (Ok := POk sg sz) hmd hwt C' S13 ?_ (fun C S hc => ⟨_, _, _, _, hlo ▸ hc _ (.head _)⟩) POk.num fun f2 sl h14 tk14 sp hg S14 => ?_).out⟩
    · clear S12 S10 S9 S8 S7 S5 S4 S3 S' N' C' hcode hq
      intro loose mean mg mb A A₀ env outer base h₀ h L ns vs vt rest Kp gs dr tk os Q E full pre post oc dt val tb tp C S V kx hst ok hd hz k kE
      obtain ⟨hlen, hval⟩ := ok
      rw [hlo] at hst
      refine call_gx (RelE := fun nw => VTs nw ∧ full = false) (cl := [(Str.ofString "value_size", L' + 1 + 1 + 1), (Str.ofString "local_unpack", L' + 1 + 1), (Str.ofString "format", L' + 1)]) (foot := vt) (rest := rest) (args := ⟨[.bytes ((pre ++ dt).toArray) tb, .int pre.length tp], []⟩) (binds := [(Str.ofString "buffer", .bytes ((pre ++ dt).toArray) tb), (Str.ofString "pos", .int pre.length tp)]) (Rel := fun v nw => full = true ∧ ∃ T v2 t vt2, v = .ref T ∧ nt v2 = nt val ∧ VTs vt2 ∧ nw = (T, tupO [v2, .int (pre.length + oc.length : Nat) t]) :: vt2) (ns' := [Str.ofString "buffer", Str.ofString "pos", Str.ofString "new_pos", Str.ofString "result"]) (gl' := []) C S kx (hst _ (.head _)).1 rfl (hco _ (hst _ (.tail _ (.head _))).1).2 (BindsTo.of_eq rfl) (fnEnv_ofG rfl (by decide +kernel) (by decide +kernel) (by decide +kernel) (by decide +kernel)) (vs2 := fun _ => [some (.bytes ((pre ++ dt).toArray) 0), some (.int pre.length 0), none, none]) (nw2 := fun L' => vt) (fun L' => (.loc .hd (.loc (.tl .hd) .nil))) ?_ ?_ ?_
      · intro g L3 h₁ tk₁ env' A' he hA C' N' S' kp kx' Q' E' ret rai
        have ceS : CE env' (Str.ofString "value_size") (L' + 1 + 1 + 1) := ⟨.inr (by rw [he]; kernel_rfl), by rw [he]; kernel_rfl, by decide +kernel, by decide +kernel⟩
        have ceU : CE env' (Str.ofString "local_unpack") (L' + 1 + 1) := ⟨.inr (by rw [he]; kernel_rfl), by rw [he]; kernel_rfl, by decide +kernel, by decide +kernel⟩
        have ceF : CE env' (Str.ofString "format") (L' + 1) := ⟨.inr (by rw [he]; kernel_rfl), by rw [he]; kernel_rfl, by decide +kernel, by decide +kernel⟩
        have hstg : Stand _ vt g := fun q hq => ⟨kp q.1 q.2 (fun hm => by
          obtain ⟨r, hr, er⟩ := List.mem_map.mp hm
          exact (hst q hq).2 r hr er) (hst q hq).1, (hst q hq).2⟩
        have gF := (hstg (L' + 1, cellO (some (.str f0 tf))) (.tail _ (.tail _ (.tail _ (.head _))))).1
        have gU := (hstg (L' + 1 + 1, cellO (some (.ref 78))) (.tail _ (.tail _ (.tail _ (.tail _ (.head _)))))).1
        have gS := (hstg (L' + 1 + 1 + 1, cellO (some (.int sz t4))) (.tail _ (.tail _ (.tail _ (.tail _ (.tail _ (.head _))))))).1
        clear hA kp he hstg hst
        refine x_assign N' S' (Ev.cast (u := .int (pre.length + sz : Nat) 0) (Ev.add (Ev.loc N' S' (.tl .hd)) (Ev.cellH N'.kind ceS (S'.keep gS) rfl)) (by push_cast; rfl)) (.tl (.tl .hd)) fun h2 tk2 S2 => ?_
        refine x_asg (w_itemT (gs := gs) (dr := dr) (os := os) (c_fn (a := 78) (Ev.cellH N'.kind ceU (S2.keep gU) rfl) fun h3 tk3 s3 => sp_p (Ev.cellH N'.kind ceF ((S2.grow s3).keep gF) rfl) fun v4 h4 tk4 n4 s4 => sp_p (Ev.sliceB (xs := pre ++ dt) (ys := dt.take sz) (a := some (pre.length : Int)) (b := some ((pre.length + sz : Nat) : Int)) (Ev.loc N' ((S2.grow s3).grow s4) .hd) (EvO.some (Ev.loc N' ((S2.grow s3).grow s4) (.tl .hd))) (EvO.some (Ev.loc N' ((S2.grow s3).grow s4) (.tl (.tl .hd)))) hz slice_at) fun v5 h5 tk5 n5 s5 => sp_n ?_) (by decide) (by decide))
        obtain ⟨t4', rfl⟩ := nt_str n4
        obtain ⟨t5, rfl⟩ := nt_bytes n5
        have S5 := ((S2.grow s3).grow s4).grow s5
        have hz5 : (dt.take sz).length ≤ 16777216 := by rw [List.length_take]; omega
        refine ⟨fnAt_K C' S5 (by k_is), (unpack_ok C' S5 kx' hf0 hz5 (fun hl T t6 h6 tk6 S6 => ?_) (fun hl e g₂ m h6 tk6 F6 R6 => ?_)).out⟩
        · have hf : full = true ∧ dt.take sz = oc := by
            cases full with
            | true =>
              have e : dt = oc ++ post := hd
              exact ⟨rfl, by rw [e, ← hlen, List.take_left]⟩
            | false =>
              exfalso
              obtain ⟨j, hj, e⟩ : ∃ j, j < oc.length ∧ dt = oc.take j := hd
              rw [e, List.length_take, List.length_take] at hl
              omega
          rw [hf.2] at S6
          refine ⟨T, _, _, h6, tk6, 0, rfl, rfl, S6.get (.head _), rfl, rfl, fun tk7 => ?_⟩
          refine st_loc N' S6.drop (.tl (.tl (.tl .hd))) fun h8 tk8 S8 => ?_
          refine x_retW (w_tuple S8 (.cons (Ev.loc N' S8 (.tl (.tl (.tl .hd)))) (.cons (Ev.loc N' S8 (.tl (.tl .hd))) .nil)) (by simp) fun T2 ws h9 tk9 e9 S9 st9 => ?_)
          obtain ⟨x, y, rfl, hx, hy⟩ := map_nt2 e9
          obtain ⟨t10, rfl⟩ := nt_int hy
          rw [← hlen] at S9
          exact ret _ _ _ _ _ _ S9 ⟨hf.1, T2, x, t10, vt, rfl, hx.trans hval.symm, V, rfl⟩
        · have hf : full = false := by
            cases full with
            | false => rfl
            | true =>
              exfalso
              have e : dt = oc ++ post := hd
              rw [e, ← hlen, List.take_left] at hl
              exact hl rfl
          exact rai.on e g₂ m h6 tk6 vt F6 ⟨V, hf⟩ R6
      · rintro v h2 tk2 nw ⟨hf, T, v2, t, vt2, rfl, hn, V2, rfl⟩ S2
        exact k hf T v2 t h2 tk2 vt2 hn V2 S2
      · rintro e g₂ m h2 tk2 nw F2 ⟨V2, hf⟩ R
        exact kE hf e g₂ m h2 tk2 nw F2 V2 R
    · rw [List.append_nil] at S14
      refine ret _ _ _ _ _ _ S14 ⟨f2, rfl, sp, ?_⟩
      intro P ps hm
      simp only [List.mem_cons, List.not_mem_nil, or_false] at hm
      rcases hm with hm | hm
      · cases hm
        exact hg 179 _ (.tail _ (.tail _ (.tail _ (.tail _ (.tail _ (.tail _ (.tail _ (.head _))))))))
      · cases hm
        exact hg 165 _ (.head _)
  · rintro v h' tk' nw ⟨f, rfl, hs, hg⟩ S'
    exact k f nw h' tk' hs hg S'
end
end Mine
end
section
open PySem PySem.Spec PySem.Calls PySem.W PyProof.Rows
set_option maxRecDepth 100000
set_option maxHeartbeats 4000000
set_option linter.unusedVariables false
namespace Mine
open PySem.Builtin in
theorem dec_entry {c : UInt8} {cs : List UInt8} {t t' : Tok} : «bytes.decode» ⟨[.bytes (c :: cs).toArray t, .str (PySem.Str.ofString "utf-8") t'], []⟩ = (mkStr (PySem.Str.ofString "utf-8") >>= fun _ => mkStr (PySem.Str.ofString "utf-8") >>= fun e => mkStr (PySem.Str.ofString "bytes.decode") >>= fun d =>
    call (.builtin "_codecs.decode.text") [.bytes (c :: cs).toArray t, e, .none, d] >>= fun v => ret v) := by kernel_rfl
open PySem.Builtin in
theorem dec_entry0 {t t' : Tok} : «bytes.decode» ⟨[.bytes #[] t, .str (PySem.Str.ofString "utf-8") t'], []⟩ = (rule "bytes.decode.empty" >>= fun _ => retStr Str.empty) := by kernel_rfl
open PySem.Builtin in
theorem meets_dec {c : UInt8} {cs : List UInt8} {t t' : Tok} {x : PySem.Str} {n : Nat} (hd : ∀ id, _codecs.runDecoder id _codecs.utf8Decoder none true (c :: cs).toArray 0 [] = pure (x.cps, n)) :
    Meets («bytes.decode» ⟨[.bytes (c :: cs).toArray t, .str (PySem.Str.ofString "utf-8") t'], []⟩) (fun _ R s => x.length ≤ sizeLine ∧ ∀ t' k, R (.ok (.ret (.str x t'))) { s with toks := k }) := by
  refine .of_wp fun prog w A R s hS => ?_
  obtain ⟨hsz, h⟩ := hS
  rw [dec_entry]
  refine wpAny_bind (wpAny_mkStr ?_ (by decide))
  refine wpAny_bind (wpAny_mkStr ?_ (by decide))
  refine wpAny_bind (wpAny_mkStr ?_ (by decide))
  exact wpAny_bind (call_function_meets KBd.kind_text KBd.plain_text KBd.entry_text (KBd.args_text _ _ _ _) (KBd.meets_text hd) ⟨hsz, wpAny_pure ⟨_, rfl, h _ _⟩⟩)
open PySem.Builtin in
theorem meets_dec0 {t t' : Tok} : Meets («bytes.decode» ⟨[.bytes #[] t, .str (PySem.Str.ofString "utf-8") t'], []⟩) (fun _ R s => ∀ t' k, R (.ok (.ret (.str Str.empty t'))) { s with toks := k }) := by
  refine .of_wp fun prog w A R s hS => ?_
  rw [dec_entry0]
  refine wpAny_bind (wpAny_rule ?_)
  refine wpAny_bind (wpAny_mkStr ?_ (by decide))
  exact wpAny_pure ⟨_, rfl, hS _ _⟩
theorem args_dec2 (a b : Value) : argsOk "bytes.decode" ⟨[a, b], []⟩ := by unfold argsOk; kernel_rfl
end Mine
end
section
open PySem PySem.Spec PySem.Calls PySem.W PyProof.Rows
open LCg (NsObj ns_obj fr_but)
set_option maxRecDepth 100000
set_option maxHeartbeats 4000000
set_option linter.unusedVariables false
namespace Mine

section
variable {prog : Program} {w : World} {loose : List Str} {mean : ExcName → Option Value} {mg mb : Str → Option Value} {A A₀ : Around} {env cenv : Env} {outer : List Env} {base h₀ h : Heap} {L D : Addr} {lv : Nat} {ns gl : List Str} {vs vs1 vs2 : List (Option Value)} {news nw foot rest dl tl Kp cl : List (Addr × Obj)} {x y n1 n2 : Str} {v u : Value} {p p1 p2 p3 p4 p' np cpos : Pos} {kk : Nat}
variable {gs : Array GenState} {dr : Drawn} {tk : Nat} {os : OsState} {Q E : Value → Shared → Prop} {QF : Flow → Shared → Prop} {e e1 e2 i o a b : Expr} {pos : Pos} {elts : List Expr} {rst : List Stmt} {s : Shared}

theorem dec_read {s : Str} {u : List UInt8} (q : SOk s u) : (u = [] ∧ s = Str.empty) ∨ ∃ c cs, u = c :: cs ∧ s.length ≤ 16777216 ∧ ∀ id, Builtin._codecs.runDecoder id Builtin._codecs.utf8Decoder none true (c :: cs).toArray 0 [] = pure (s.cps, u.length) := by
  obtain ⟨b, hb, r, hr, rfl, rfl⟩ := q
  have h4 : r = 0 ∨ r = 1 ∨ r = 2 ∨ r = 3 := by omega
  simp only [texts, List.mem_cons, List.not_mem_nil, or_false] at hb
  rcases hb with rfl | rfl | rfl | rfl | rfl <;> rcases h4 with rfl | rfl | rfl | rfl <;>
    first
    | exact .inl ⟨rfl, rfl⟩
    | exact .inr ⟨_, _, rfl, by decide, fun _ => by kernel_rfl⟩
theorem text_def {s : Str} {u : List UInt8} {t : Tok} (q : SOk s u) : isDef (.str s t) = (u.length == 0) := by
  show (s.length == 0) = (u.length == 0)
  obtain ⟨b, hb, r, hr, rfl, rfl⟩ := q
  have h4 : r = 0 ∨ r = 1 ∨ r = 2 ∨ r = 3 := by omega
  simp only [texts, List.mem_cons, List.not_mem_nil, or_false] at hb
  rcases hb with rfl | rfl | rfl | rfl | rfl <;> rcases h4 with rfl | rfl | rfl | rfl <;> decide
/-- what a text, what octets are -/
def SP (u : List UInt8) (val : Value) : Prop := ∃ s, SOk s u ∧ nt val = .str s 0
def BP (u : List UInt8) (val : Value) : Prop := nt val = .bytes u.toArray 0
def LOk (P : List UInt8 → Value → Prop) (oc : List UInt8) (val : Value) : Prop := ∃ u, oc = vB u.length ++ u ∧ u.length ≤ 100 ∧ P u val
theorem SP.dflt {u : List UInt8} {val : Value} (h : SP u val) : isDef val = (u.length == 0) := by
  obtain ⟨s, q, e⟩ := h
  obtain ⟨t, rfl⟩ := nt_str e
  exact text_def q
theorem BP.dflt {u : List UInt8} {val : Value} (h : BP u val) : isDef val = (u.length == 0) := by
  obtain ⟨t, rfl⟩ := nt_bytes h
  show (u.toArray.size == 0) = _
  rw [List.size_toArray]
theorem Dt.lt {post os dt : List UInt8} (h : Dt false post os dt) : dt.length < os.length := by
  obtain ⟨j, hj, e⟩ : ∃ j, j < os.length ∧ dt = os.take j := h
  rw [e, List.length_take]; omega

/-- o.decode("utf-8") of one of the texts -/
theorem Ev.decode {s : Str} {u : List UInt8} {kd : Nat} (q : SOk s u) (qo : Ev prog w A env h o (.bytes u.toArray 0))
    (he : starEach [(.Constant (.str (Str.ofString "utf-8")) kd p3 : Expr)] env = [(false, eval (.Constant (.str (Str.ofString "utf-8")) kd p3) env)] := by rfl)
    (hc : eval (.Call (.Attribute o (Str.ofString "decode") p) [.Constant (.str (Str.ofString "utf-8")) kd p3] [] p') env = (do
        let ov ← eval o env
        standAt p.atName
        let __x ← holding [ov] (getMethod ov (Str.ofString "decode") (do return (← importBound o env).getD true))
        match __x with
          | (f, first) => callWith p' f first (backTo p' (starEach [.Constant (.str (Str.ofString "utf-8")) kd p3] env)) []) := by rfl) :
    Ev prog w A env h (.Call (.Attribute o (Str.ofString "decode") p) [.Constant (.str (Str.ofString "utf-8")) kd p3] [] p') (.str s 0) := fun h1 s1 gs dr tk os Q E k => .mk (by
  (with_reducible refine MethodCall_ (qo.use h1 s1 gs dr tk os _ _ fun v' h2 tk' e1 s2 => ?_).out hc)
  obtain ⟨t, rfl⟩ := nt_bytes e1
  refine KBd.method ?_
  refine callWith_of (P := fun _ => True) (by rw [he]; rfl) (fun h _ => ⟨_, .inr (.inl rfl), Looks.of_pure rfl⟩) ?_
  rw [he]
  refine evalArgs_plain (spliced_cons (Constant_str (k := kd) (pos := p3) (spliced_nil ⟨trivial, ?_⟩)))
  rcases dec_read q with ⟨rfl, rfl⟩ | ⟨c, cs, rfl, hz, hd⟩
  · exact call_meets FB.slot_bytes_decode (typeIs_bytes _ _ _) FB.entry_bytes_decode (args_dec2 _ _) meets_dec0 fun t' k' => k _ _ _ rfl s2
  · exact call_meets FB.slot_bytes_decode (typeIs_bytes _ _ _) FB.entry_bytes_decode (args_dec2 _ _) (meets_dec (x := s) hd) ⟨by rw [sizeLine_eq]; exact hz, fun t' k' => k _ _ _ rfl s2⟩)

/-- D[n] = e, e worked out -/
theorem x_dsetW {n : Int} {E' : Value → Shared → Prop} (q : WP prog w A (eval e env) (fun v s₁ => ∃ (h : Heap) (tk : Nat) (vs : List (Option Value)) (news : List (Addr × Obj)) (D : Addr) (od : Obj) (kvs : List (Int × Value)) (nw : Obj → List (Addr × Obj)), s₁ = ⟨h, gs, dr, tk, os⟩ ∧ St h₀ L h ns vs news ∧ (∀ o', Sel D od o' news (nw o')) ∧ od.IsDictOf (intKind prog w) kvs ∧ kvs.length ≤ 16777216 ∧
      Ev prog w A env h o (.ref D) ∧ Ev prog w A env h a (.int n 0) ∧ ∀ h' tk' o', o'.IsDictOf (intKind prog w) (stored kvs n v) → St h₀ L h' ns vs (nw o') → WP prog w A (execs rst env) QF E' ⟨h', gs, dr, tk', os⟩) E' s)
    (hs : swapsWith e (some (.Subscript o a p4)) p.line env = pure false := by rfl) :
    WP prog w A (execs (.Assign [.Subscript o a p4] e p :: rst) env) QF E' s := x_cons (.mk (by
  (with_reducible refine wpAny_Assign_Subscript (wpAny_mono q.out (fun v s₁ h₁ => ?_) fun _ _ x => x) hs)
  obtain ⟨h, tk, vs, news, D, od, kvs, nw, rfl, S, sel, hd, hz, qo, qk, k⟩ := h₁
  refine (qo.use h (stays_refl h) gs dr tk os _ _ fun ov h3 tk3 e3 s3 => (qk.use h3 s3 gs dr tk3 os _ _ fun kv h4 tk4 e4 s4 => ?_).out).out
  obtain rfl := nt_ref e3
  obtain ⟨t4, rfl⟩ := nt_int e4
  have S4 := (S.grow s3).grow s4
  refine wpAny_setItem_pairs (hsz := by rw [sizeLine_eq]; exact hz) isInt_of (dictOf_of S4 (sel od).mem hd) fun h' hmm hs => ?_
  obtain ⟨o', ho', hd'⟩ := Heap.dictOf_iff.mp hmm
  exact (k h' _ o' hd' (S4.but (sel o') (fun b x hb e => (hs.2 b hb).trans e) ho')).out))

/-- list.append as a statement, its argument worked out -/
theorem x_appendW {its : Array Value} {n : Nat} (S : St h₀ L h ns vs news) (qo : Ev prog w A env h o (.ref D)) {nw : Value → List (Addr × Obj)} (sel : ∀ v', Sel D (listOf its n) (listOf (its.push v') (n + 1)) news (nw v')) (hz : its.size ≤ 16777216)
    (q : ∀ h2 tk2, St h₀ L h2 ns vs news → WP prog w A (eval e env) (fun v s₁ => ∃ h3 tk3, s₁ = ⟨h3, gs, dr, tk3, os⟩ ∧ St h₀ L h3 ns vs news ∧ nt v = u) E ⟨h2, gs, dr, tk2, os⟩)
    (k : ∀ v' h' tk', nt v' = u → St h₀ L h' ns vs (nw v') → WP prog w A (execs rst env) QF E ⟨h', gs, dr, tk', os⟩)
    (hi : interactive env = false) (he : starEach [e] env = [(false, eval e env)] := by rfl)
    (hc : eval (.Call (.Attribute o "append" p) [e] [] p') env = (do
        let ov ← eval o env
        standAt p.atName
        let __x ← holding [ov] (getMethod ov "append" (do return (← importBound o env).getD true))
        match __x with
          | (f, first) => callWith p' f first (backTo p' (starEach [e] env)) []) := by rfl)
    (hs : swapsWith (.Call (.Attribute o "append" p) [e] [] p') none p2.line env = pure false := by rfl) :
    WP prog w A (execs (.Expr (.Call (.Attribute o "append" p) [e] [] p') p2 :: rst) env) QF E ⟨h, gs, dr, tk, os⟩ :=
  x_cons (.mk (by
    (with_reducible refine wpAny_Expr_any ?_ hi hs)
    (with_reducible refine MethodCall_ (qo.use h (stays_refl h) gs dr tk os _ _ fun v' h2 tk' e1 s2 => ?_).out hc)
    obtain rfl := nt_ref e1
    have S2 := S.grow s2
    have hm := (sel .none).mem
    refine kl_method S2.nw hm PySem.F.slot_list_append PySem.F.type_list_append ?_
    refine callWith_of (P := fun _ => True) (by rw [he]; rfl) (fun h _ => ⟨_, .inr (.inl rfl), Looks.of_pure rfl⟩) ?_
    rw [he]
    refine evalArgs_plain (spliced_cons (wpAny_mono (q h2 tk' S2).out (fun v' s₁ h₁ => ?_) fun _ _ x => x))
    obtain ⟨h3, tk3, rfl, S3, e3⟩ := h₁
    refine spliced_nil ⟨trivial, ?_⟩
    refine S3.elim fun m F back => ?_
    have ho := S3.get hm
    exact append_at ho (fun h' hs ho' => (k v' h' tk3 e3 (by
      obtain ⟨pre, post, e1, e2, a, b⟩ := ((sel v').upd S3.nd).split
      rw [e2]
      rw [e1] at S3
      have z := S3.nw (D, listOf its n) (List.mem_append.mpr (.inr (.head _)))
      refine back _ _ (F.change hs z.2.1 z.2.2) (news_set S3.nw a b hs ho') ?_
      rw [← e2, (sel v').addrs, e1]
      exact S3.nd)).out) (hsz := by rw [sizeLine_eq]; exact hz)))
/-- assert e -/
theorem x_assert {gs : Array GenState} (q : Ts prog w A env h e true) (k : ∀ h2 tk2, h.StaysIn h2 → WP prog w A (execs rst env) QF E ⟨h2, gs, dr, tk2, os⟩) : WP prog w A (execs (.Assert e none p :: rst) env) QF E ⟨h, gs, dr, tk, os⟩ :=
  x_cons (.mk (wpAny_Assert_holds (q.use h (stays_refl h) gs dr tk os _ _ fun h2 tk2 s2 => ⟨rfl, (k h2 tk2 s2).out⟩).out))
end
/-- a turner of octets into a text, at fc -/
structure CVC (prog : Program) (w : World) (fc : Addr) (cl : List (Addr × Obj)) : Prop where
  fn : ∀ h : Heap, (∀ q ∈ cl, h.get? q.1 = some q.2) → FnAt fc h
  run : ∀ {loose : List Str} {mean : ExcName → Option Value} {mg mb : Str → Option Value} {A A₀ : Around} {env : Env} {outer : List Env} {base h₀ h : Heap} {L : Addr} {ns : List Str} {vs : List (Option Value)} {rest : List (Addr × Obj)}
    {gs : Array GenState} {dr : Drawn} {tk : Nat} {os : OsState} {Q E : Value → Shared → Prop} (s : Str) (u : List UInt8) (t : Tok), SOk s u →
    Cx w loose mean mg mb A env outer A₀ base h₀ L 6 → St h₀ L h ns vs rest → (∀ q ∈ cl, h.get? q.1 = some q.2) →
    (∀ t' h' tk', St h₀ L h' ns vs rest → Q (.str s t') ⟨h', gs, dr, tk', os⟩) →
    WP prog w A (PySem.call (.ref fc) [.bytes u.toArray t]) Q E ⟨h, gs, dr, tk, os⟩

/-- the maker of a field's decoder of one kind -/
structure XD (prog : Program) (w : World) (md : Nat) (f : Addr) (tabs : List (Addr × Obj)) (wt : Nat) (Ok : List UInt8 → Value → Prop) : Prop where
  run : ∀ {loose : List Str} {mean : ExcName → Option Value} {mg mb : Str → Option Value} {A A₀ : Around} {env : Env} {outer : List Env} {base h₀ h : Heap} {L : Addr} {ns : List Str} {vs : List (Option Value)} {rest : List (Addr × Obj)}
    {gs : Array GenState} {dr : Drawn} {tk : Nat} {os : OsState} {Q E : Value → Shared → Prop} (num : Nat) (clr : Bool) (t1 t2 : Tok), num < 2 ^ 30 →
    Cx w loose mean mg mb A env outer A₀ base h₀ L 12 → St h₀ L h ns vs (tabs ++ ((102, tabObj #[]) :: rest)) →
    (∀ d dl h' tk', (∀ h : Heap, (∀ q ∈ dl, h.get? q.1 = some q.2) → FnAt d h) → FD prog w md d dl num clr (vB (8 * num + wt)) Ok → GT (tabs ++ [(102, tabObj #[])]) dl → St h₀ L h' ns vs (dl ++ rest) → Q (.ref d) ⟨h', gs, dr, tk', os⟩) →
    WP prog w A (PySem.call (.ref f) [.int num t1, .bool (decide (0 < md)), .bool (md == 2), .int num t2, .ref 383, .bool clr]) Q E ⟨h, gs, dr, tk, os⟩
end Mine
end
section
open PySem PySem.Spec PySem.Calls PySem.W PyProof.Rows
open LCg (NsObj ns_obj fr_but)
set_option maxRecDepth 100000
set_option maxHeartbeats 4000000
set_option linter.unusedVariables false
namespace Mine

section
variable {prog : Program} {w : World} {loose : List Str} {mean : ExcName → Option Value} {mg mb : Str → Option Value} {A A₀ : Around} {env cenv : Env} {outer : List Env} {base h₀ h : Heap} {L D : Addr} {lv : Nat} {ns gl : List Str} {vs vs1 vs2 : List (Option Value)} {news nw foot rest dl tl Kp cl : List (Addr × Obj)} {x y n1 n2 : Str} {v u : Value} {p p1 p2 p3 p4 p' np cpos : Pos} {kk : Nat}
variable {gs : Array GenState} {dr : Drawn} {tk : Nat} {os : OsState} {Q E : Value → Shared → Prop} {QF : Flow → Shared → Prop} {e e1 e2 i o a b : Expr} {pos : Pos} {elts : List Expr} {rst : List Stmt} {s : Shared}


/-- BytesDecoder -/
theorem byt_mk0 : XD prog w 0 303 [(298, tabObj #[])] 2 (LOk BP) := by
  refine ⟨?_⟩
  intro loose mean mg mb A A₀ env outer base h₀ h L ns vs rest gs dr tk os Q E num clr t1 t2 hnum C S k
  have S : St h₀ L h ns vs ([(102, tabObj #[]), (298, tabObj #[])] ++ rest) := S.re (.swap _ _ _)
  refine call_g (cl := []) (foot := [(102, tabObj #[]), (298, tabObj #[])]) (rest := rest) (args := ⟨[.int num t1, .bool false, .bool false, .int num t2, .ref 383, .bool clr], []⟩) (binds := [(Str.ofString "field_number", .int num t1), (Str.ofString "is_repeated", .bool false), (Str.ofString "is_packed", .bool false), (Str.ofString "key", .int num t2), (Str.ofString "new_default", .ref 383), (Str.ofString "clear_if_default", .bool clr)]) (Rel := fun v nw => ∃ f, v = .ref f ∧ (∀ h : Heap, (∀ q ∈ nw, h.get? q.1 = some q.2) → FnAt f h) ∧ FD0 prog w 8 f nw num clr (LOk BP) ∧ GT [(102, tabObj #[]), (298, tabObj #[])] nw) (ns' := [Str.ofString "field_number", Str.ofString "is_repeated", Str.ofString "is_packed", Str.ofString "DecodeRepeatedField", Str.ofString "DecodeField"]) (gl' := [Str.ofString "_DecodeVarint", Str.ofString "TagBytes", Str.ofString "WIRETYPE_LENGTH_DELIMITED", Str.ofString "len"]) C S (K_get C S (by k_is)) rfl (K_code C S (by k_is)) (BindsTo.of_defaults rfl (K_get C S (f := 296) (by k_is)) rfl rfl rfl) (fnEnv_ofG rfl (by decide +kernel) (by decide +kernel) (by decide +kernel) (by decide +kernel)) (vs2 := fun _ => [some (.int num 0), some (.bool false), some (.bool false), none, none]) (nw2 := fun L' => [(L' + 1, cellO (some (.int num t2))), (L' + 1 + 1, cellO (some (.ref 383))), (L' + 1 + 1 + 1, cellO (some (.bool clr))), (L' + 1 + 1 + 1 + 1, cellO none), (L' + 1 + 1 + 1 + 1 + 1, cellO none), (L' + 1 + 1 + 1 + 1 + 1 + 1, cellO none)] ++ ([(102, tabObj #[]), (298, tabObj #[])])) (fun L' => (.loc .hd (.loc (.tl .hd) (.loc (.tl (.tl .hd)) (.cel (by kernel_rfl) (by kernel_rfl) .hd (.cel (by kernel_rfl) (by kernel_rfl) (.tl .hd) (.cel (by kernel_rfl) (by kernel_rfl) (.tl (.tl .hd)) .nil))))))) ?_ ?_
  · intro g L2 h₁ tk₁ env' A' he hA C' N' S' kp Q' E' ret
    have hcode : env'.code = .ref 302 := by rw [he]
    have hq : qualnameIn env' (Str.ofString "DecodeField") (Str.ofString "DecodeField") = Str.ofString "BytesDecoder.<locals>.DecodeField" := by rw [he]; kernel_rfl
    clear hA kp
    refine x_asg (Ev.use' (Ev.glob N' C' S' (by k_is) (.head _) rfl) fun v2 h2 tk2 n2 s2 => ?_)
    obtain rfl := nt_ref n2
    refine st_cell N'.kind (by rw [he]; kernel_rfl) (by rw [he]; kernel_rfl) (S'.grow s2) (.tl (.tl (.tl .hd))) fun h3 S3 => ?_
    refine x_assert (Ts.cast (d := true) (Ts.not (Ts.bool (Ev.loc N' S3 (.tl (.tl .hd))))) rfl) fun h4 tk4 s4 => ?_
    have S4 := S3.grow s4
    refine x_if (Ts.bool (Ev.loc N' S4 (.tl .hd))) (fun hc => absurd hc (by decide)) fun _ h5 tk5 s5 => ?_
    have S12 := S4.grow s5
    refine x_def1 rfl rfl rfl rfl ?_
    rw [hq]
    refine Ev.use' Ev.int fun v13 h13 tk13 n13 s13 => ?_
    obtain ⟨t13, rfl⟩ := nt_int n13
    refine w_mk1 (S12.grow s13) fun T2 h14 S14 => ?_
    refine w_tail (clos := [(Str.ofString "local_DecodeVarint", L2 + 1 + 1 + 1 + 1), (Str.ofString "key", L2 + 1), (Str.ofString "clear_if_default", L2 + 1 + 1 + 1)]) N' C' S14 hcode (S14.elim fun m F _ => (codeHd_of_K C'.X (by kernel_rfl)).keeps F.keep) (fun c' => (.tl (.tl (.tl (.tl (.tl (.tl (.tl (.tl .hd))))))))) (closure_of (by rw [he]; kernel_rfl)) trivial rfl fun f2 c2 P2 oc3 ctv doc pm h15 tk15 hco2 S15 => ?_
    refine st_loc N' S15 (.tl (.tl (.tl (.tl .hd)))) fun h16 tk16 S16 => ?_
    refine x_ret (Ev.loc N' S16 (.tl (.tl (.tl (.tl .hd))))) fun v17 h17 tk17 n17 s17 => ?_
    obtain rfl := nt_ref n17
    refine ret _ _ _ _ _ _ (S16.grow s17) ⟨f2, rfl, fun h q => ⟨_, _, _, _, q _ (.head _)⟩, ?_, ?_⟩
    rotate_left
    · intro P ps hm
      rcases List.mem_cons.mp hm with e | hm
      · cases e
        exact ⟨_, .tail _ (.tail _ (.tail _ (.tail _ (.tail _ (.tail _ (.tail _ (.tail _ (.tail _ (.tail _ (.head _))))))))))⟩
      · cases List.mem_singleton.mp hm
        exact ⟨_, .tail _ (.tail _ (.tail _ (.tail _ (.tail _ (.tail _ (.tail _ (.tail _ (.tail _ (.tail _ (.tail _ (.head _)))))))))))⟩
    · clear S16 S15 S14 S12 S4 S3 S' N' C' hcode hq ret S C
      intro loose mean mg mb A A₀ env outer base h₀ h L ns vs vt rest Kp gs dr tk os Q E full pre post oc dt val fin D od kvs tb tp te C S V kx hst hod hkv lo ok hd hz hfin hcutf kO kE
      obtain ⟨u, hou, hul, hP⟩ := ok
      have hul2 := vB_small (n := u.length) (by omega)
      refine call_gx (RelE := fun nw => ∃ vt2, nw = (D, od) :: vt2 ∧ VTs vt2 ∧ (full = false ∨ fin < pre.length + oc.length)) (cl := [(Str.ofString "local_DecodeVarint", L2 + 1 + 1 + 1 + 1), (Str.ofString "key", L2 + 1), (Str.ofString "clear_if_default", L2 + 1 + 1 + 1)]) (foot := (D, od) :: vt) (rest := rest) (args := ⟨[.bytes ((pre ++ dt).toArray) tb, .int pre.length tp, .int fin te, .none, .ref D], []⟩) (binds := [(Str.ofString "buffer", .bytes ((pre ++ dt).toArray) tb), (Str.ofString "pos", .int pre.length tp), (Str.ofString "end", .int fin te), (Str.ofString "message", .none), (Str.ofString "field_dict", .ref D), (Str.ofString "current_depth", .int 0 t13)]) (Rel := fun v nw => full = true ∧ pre.length + oc.length ≤ fin ∧ ∃ v2 t od2 vt2, v = .int (pre.length + oc.length : Nat) t ∧ nt v2 = nt val ∧ VTs vt2 ∧ od2.IsDictOf (intKind prog w) (if clr && isDef val then [] else [(num, v2)]) ∧ nw = (D, od2) :: vt2) (ns' := [Str.ofString "buffer", Str.ofString "pos", Str.ofString "end", Str.ofString "message", Str.ofString "field_dict", Str.ofString "current_depth", Str.ofString "size", Str.ofString "new_pos"]) (gl' := [Str.ofString "DecodeError", Str.ofString "IsDefaultScalarValue"]) C S kx (hst _ (.head _)).1 rfl (hco2 _ (hst _ (.tail _ (.head _))).1).2 (BindsTo.of_defaults rfl (hst (T2, _) (.tail _ (.tail _ (.tail _ (.head _))))).1 rfl rfl rfl) (fnEnv_ofG rfl (by decide +kernel) (by decide +kernel) (by decide +kernel) (by decide +kernel)) (vs2 := fun _ => [some (.bytes ((pre ++ dt).toArray) 0), some (.int pre.length 0), some (.int fin 0), some (.none), some (.ref D), some (.int 0 0), none, none]) (nw2 := fun L' => (D, od) :: vt) (fun L' => (.loc .hd (.loc (.tl .hd) (.loc (.tl (.tl .hd)) (.loc (.tl (.tl (.tl .hd))) (.loc (.tl (.tl (.tl (.tl .hd)))) (.loc (.tl (.tl (.tl (.tl (.tl .hd))))) .nil))))))) ?_ ?_ ?_
      · intro g L3 h₁ tk₁ env' A' he hA C' N' S' kp kx' Q' E' ret rai
        have ceC : CE env' (Str.ofString "clear_if_default") (L2 + 1 + 1 + 1) := ⟨.inr (by rw [he]; kernel_rfl), by rw [he]; kernel_rfl, by decide +kernel, by decide +kernel⟩
        have ceK : CE env' (Str.ofString "key") (L2 + 1) := ⟨.inr (by rw [he]; kernel_rfl), by rw [he]; kernel_rfl, by decide +kernel, by decide +kernel⟩
        have ceL : CE env' (Str.ofString "local_DecodeVarint") (L2 + 1 + 1 + 1 + 1) := ⟨.inr (by rw [he]; kernel_rfl), by rw [he]; kernel_rfl, by decide +kernel, by decide +kernel⟩
        have hstg : Stand _ ((D, od) :: vt) g := fun q hq => ⟨kp q.1 q.2 (fun hm => by
          obtain ⟨r, hr, er⟩ := List.mem_map.mp hm
          exact (hst q hq).2 r hr er) (hst q hq).1, (hst q hq).2⟩
        clear hA kp
        have gC := (hstg (L2 + 1 + 1 + 1, cellO (some (.bool clr))) (.tail _ (.tail _ (.tail _ (.tail _ (.tail _ (.tail _ (.head _)))))))).1
        have gK := (hstg (L2 + 1, cellO (some (.int num t2))) (.tail _ (.tail _ (.tail _ (.tail _ (.head _)))))).1
        have gL := (hstg (L2 + 1 + 1 + 1 + 1, cellO (some (.ref 142))) (.tail _ (.tail _ (.tail _ (.tail _ (.tail _ (.tail _ (.tail _ (.head _))))))))).1

        have hi : interactive env' = false := by rw [he]; rfl
        clear hstg hst he
        refine x_pair (h₀ := g) (gs := gs) (dr := dr) (os := os) N' C'.hand (c_fn (a := 142) (Ev.cellH N'.kind ceL (S'.keep gL) rfl) fun h2 tk2 s2 => sp_p ((Ev.loc N' S' .hd).grow s2) fun v3 h3 tk3 n3 s3 => sp_p (((Ev.loc N' S' (.tl .hd)).grow s2).grow s3) fun v4 h4 tk4 n4 s4 => sp_n ?_)
        obtain ⟨t3, rfl⟩ := nt_bytes n3
        obtain ⟨t4', rfl⟩ := nt_int n4
        have S4 := ((S'.grow s2).grow s3).grow s4
        refine ⟨fnAt_K C' S4 (by k_is), ?_⟩
        have e24 : u.length % 2 ^ 64 = u.length := Nat.mod_eq_of_lt (by omega)
        have okl : VOk2 (fun raw => ((raw % 2 ^ 64 : Nat) : Int)) (vB u.length) (.int u.length 0) := ⟨u.length, vB_ok _, by rw [hul2]; simp, by show Value.int (u.length : Int) 0 = Value.int ((u.length % 2 ^ 64 : Nat) : Int) 0; rw [e24]⟩
        have hlen : oc.length = (vB u.length).length + u.length := by rw [hou, List.length_append]
        have hdlt : full = false → dt.length < oc.length := by
          intro hf
          subst hf
          exact hd.lt
        rw [hou] at hd
        rcases hd.split with ⟨d2, hdt, hd2⟩ | ⟨hff2, hcut⟩
        · refine ((es_142.up (by decide)) true pre d2 (vB u.length) dt (.int u.length 0) t3 t4' C' S4.rot V kx' (fun q hq => nomatch hq) okl hdt hz (fun _ T v5 t5 h5 tk5 vt5 n5 V5 S5 => ?_) (fun hf => nomatch hf)).out
          refine ⟨T, v5, _, h5, tk5, _, _, _, _, rfl, rfl, S5, .head _, (.tl (.tl (.tl (.tl (.tl (.tl .hd)))))), (.tl .hd), fun h6 tk6 S6 => ?_⟩
          rw [n5] at S6
          have S6 : St g L3 h6 _ _ ((D, od) :: vt5) := (S6.drop).comm
          refine x_assign N' S6 (Ev.cast (u := .int (pre.length + (vB u.length).length + u.length : Nat) 0) (Ev.add (Ev.loc N' S6 (.tl .hd)) (Ev.loc N' S6 (.tl (.tl (.tl (.tl (.tl (.tl .hd)))))))) (by push_cast; rfl)) (.tl (.tl (.tl (.tl (.tl (.tl (.tl .hd))))))) fun h7 tk7 S7 => ?_
          refine x_if (Ts.gt (Ev.loc N' S7 (.tl (.tl (.tl (.tl (.tl (.tl (.tl .hd)))))))) (Ev.loc N' S7 (.tl (.tl .hd)))) (fun hc h8 tk8 s8 => ?_) fun hc h8 tk8 s8 => x_nil (Nx.go ?_)
          · have hlt := of_decide_eq_true hc
            refine x_raise (c := 37) N' C' (S7.grow s8) (by k_is) (by kernel_rfl) (.head _) Ev.cstr fun h9 h10 e10 tk10 s10 f10 => ?_
            exact rai.new e10 _ h9 h10 tk10 _ _ ((D, od) :: vt5) ((S7.grow s8).grow s10) ⟨vt5, rfl, V5, .inr (by omega)⟩ (.inr (.inl rfl)) f10
          · have hge := of_decide_eq_false hc
            have hfull : full = true := by
              cases full with
              | true => rfl
              | false =>
                have h1 := hcutf rfl
                have h2 := hdlt rfl
                rw [List.length_append] at h1
                omega
            have hd3 := hd2 hfull
            have hbuf : pre ++ dt = (pre ++ vB u.length) ++ (u ++ post) := by rw [hdt, hd3, List.append_assoc]
            have hA : pre.length + (vB u.length).length = (pre ++ vB u.length).length := by simp
            have S8 : St g L3 h8 [Str.ofString "buffer", Str.ofString "pos", Str.ofString "end", Str.ofString "message", Str.ofString "field_dict", Str.ofString "current_depth", Str.ofString "size", Str.ofString "new_pos"] [some (.bytes ((pre ++ vB u.length) ++ (u ++ post)).toArray 0), some (.int ((pre ++ vB u.length).length : Nat) 0), some (.int fin 0), some .none, some (.ref D), some (.int 0 0), some (.int u.length 0), some (.int ((pre ++ vB u.length).length + u.length : Nat) 0)] ((D, od) :: vt5) := by rw [← hbuf, ← hA]; exact S7.grow s8
            have hz5 := hz
            rw [hbuf] at hz5
            have hEND : (pre ++ vB u.length).length + u.length = pre.length + oc.length := by rw [← hA, hlen]; omega
            have hdf : isDef val = (u.length == 0) := BP.dflt hP
            have fin2 : ∀ {p1 p2 : Pos} {rst : List Stmt} v9 od2 h9 tk9, nt v9 = nt val → od2.IsDictOf (intKind prog w) (if clr && isDef val then [] else [(((num : Nat) : Int), v9)]) → St g L3 h9 [Str.ofString "buffer", Str.ofString "pos", Str.ofString "end", Str.ofString "message", Str.ofString "field_dict", Str.ofString "current_depth", Str.ofString "size", Str.ofString "new_pos"] [some (.bytes ((pre ++ vB u.length) ++ (u ++ post)).toArray 0), some (.int ((pre ++ vB u.length).length : Nat) 0), some (.int fin 0), some .none, some (.ref D), some (.int 0 0), some (.int u.length 0), some (.int ((pre ++ vB u.length).length + u.length : Nat) 0)] ((D, od2) :: vt5) → WP prog w A' (execs (.Return (some (.Name (Str.ofString "new_pos") p1)) p2 :: rst) env') Q' E' ⟨h9, gs, dr, tk9, os⟩ := fun v9 od2 h9 tk9 hn9 ho S9 => x_ret (Ev.loc N' S9 (.tl (.tl (.tl (.tl (.tl (.tl (.tl .hd)))))))) fun v10 h10 tk10 n10 s10 => by
              obtain ⟨t10, rfl⟩ := nt_int n10
              have S10 := S9.grow s10
              rw [hEND] at S10 ⊢
              exact ret _ _ _ _ _ _ S10 ⟨hfull, by omega, v9, t10, od2, vt5, rfl, hn9, V5, ho, rfl⟩
            refine x_ifW (WP.mono (Q := fun c s => c = (clr && isDef val) ∧ ∃ h tk, s = ⟨h, gs, dr, tk, os⟩ ∧ St g L3 h [Str.ofString "buffer", Str.ofString "pos", Str.ofString "end", Str.ofString "message", Str.ofString "field_dict", Str.ofString "current_depth", Str.ofString "size", Str.ofString "new_pos"] [some (.bytes ((pre ++ vB u.length) ++ (u ++ post)).toArray 0), some (.int ((pre ++ vB u.length).length : Nat) 0), some (.int fin 0), some .none, some (.ref D), some (.int 0 0), some (.int u.length 0), some (.int ((pre ++ vB u.length).length + u.length : Nat) 0)] ((D, od) :: vt5)) (WB.wp (WB.and ((Ts.bool (Ev.cellH N'.kind ceC (S8.keep gC) rfl)).use _ (stays_refl _) gs dr _ os _ _ fun h9 tk9 s9 => ?_))) ?_)
            · have S9 := S8.grow s9
              cases clr with
              | false => exact ⟨rfl, h9, tk9, rfl, S9⟩
              | true =>
                rw [if_pos rfl]
                refine WB.and (w_tplain (c_fn (a := 121) (Ev.glob N' C' S9 (by k_is) (.tail _ (.head _)) rfl) fun h10 tk10 s10 => sp_p ((Ev.loc N' S9 (.tl (.tl (.tl (.tl (.tl (.tl .hd))))))).grow s10) fun v11 h11 tk11 n11 s11 => sp_n ?_))
                obtain ⟨t11', rfl⟩ := nt_int n11
                have S11 := (S9.grow s10).grow s11
                refine ⟨fnAt_K C' S11 (by k_is), (isdef_ok (v := .int u.length t11') (.inl ⟨_, _, rfl⟩) C' S11 fun h12 tk12 S12 => .mk (wpAny_truthy_bool ?_)).out⟩
                have e10 : isDef (.int (u.length : Int) t11') = isDef val := by
                  rw [hdf]
                  show ((u.length : Int) == 0) = (u.length == 0)
                  cases hu : u.length <;> rfl
                rw [e10]
                cases isDef val with
                | true => rw [if_pos rfl]; exact WB.andN ⟨rfl, h12, tk12, rfl, S12⟩
                | false => rw [if_neg Bool.false_ne_true]; exact ⟨rfl, h12, tk12, rfl, S12⟩
            · rintro c s ⟨hc, h12, tk12, rfl, S12⟩
              cases c with
              | true => 
                rw [if_pos rfl]
                refine x_dpop S12 (fun o' => .hd) hod hkv lo (Ev.loc N' S12 (.tl (.tl (.tl (.tl .hd))))) (Ev.cellH N'.kind ceK (S12.keep gK) rfl) Ev.cnone (fun h13 tk13 od2 ho2 S13 => x_nil (Nx.go (fin2 val od2 h13 tk13 rfl ?_ S13))) hi
                rw [← hc, if_pos rfl]
                exact ho2
              | false =>
                rw [if_neg Bool.false_ne_true]
                refine x_dsetW (n := num) (h₀ := g) (L := L3) (ns := [Str.ofString "buffer", Str.ofString "pos", Str.ofString "end", Str.ofString "message", Str.ofString "field_dict", Str.ofString "current_depth", Str.ofString "size", Str.ofString "new_pos"]) (gs := gs) (dr := dr) (os := os) (Ev.use' (Ev.sliceB (xs := (pre ++ vB u.length) ++ (u ++ post)) (ys := u) (a := some ((pre ++ vB u.length).length : Int)) (b := some (((pre ++ vB u.length).length + u.length : Nat) : Int)) (Ev.loc N' S12 .hd) (EvO.some (Ev.loc N' S12 (.tl .hd))) (EvO.some (Ev.loc N' S12 (.tl (.tl (.tl (.tl (.tl (.tl (.tl .hd))))))))) hz5 (slice_at.trans (by rw [List.take_left]))) fun v15 h15 tk15 n15 s15 => ?_)
                have S15 := S12.grow s15
                refine ⟨h15, tk15, _, _, D, od, kvs, _, rfl, S15, fun o' => .hd, hod, by rcases hkv with rfl | ⟨v, rfl⟩ <;> simp, Ev.loc N' S15 (.tl (.tl (.tl (.tl .hd)))), Ev.cellH N'.kind ceK (S15.keep gK) rfl, fun h16 tk16 od2 ho2 S16 => x_nil (Nx.go (fin2 v15 od2 h16 tk16 (n15.trans hP.symm) ?_ S16))⟩
                rw [← hc, if_neg Bool.false_ne_true]
                have es : ∀ z, stored kvs num z = [(((num : Nat) : Int), z)] := by intro z; rcases hkv with rfl | ⟨v, rfl⟩ <;> simp [stored]
                rw [es] at ho2
                exact ho2
        · refine ((es_142.up (by decide)) false pre [] (vB u.length) dt (.int u.length 0) t3 t4' C' S4.rot V kx' (fun q hq => nomatch hq) okl hcut hz (fun hf => nomatch hf) (fun _ e g₂ m h6 tk6 vt6 F6 V6 R6 => ?_)).out
          exact rai.on e g₂ m h6 tk6 ((D, od) :: vt6) F6.comm ⟨vt6, rfl, V6, .inl hff2⟩ (R6.sub sub_swap)
      · rintro v h' tk' nw ⟨hf, hle, v2, t, od2, vt2, rfl, hn, V2, ho2, rfl⟩ S2
        exact kO hf hle v2 t od2 h' tk' vt2 hn V2 ho2 S2
      · rintro e g₂ m h' tk' nw F2 ⟨vt2, rfl, V2, hf⟩ R
        exact kE hf e g₂ m h' tk' vt2 F2 V2 R
  · rintro v h' tk' nw ⟨f, rfl, hf, hs, hg⟩ S'
    exact k f nw h' tk' hf hs ((GT.sub fun q hq => by
      simp only [List.mem_append, List.mem_cons, List.not_mem_nil, or_false] at hq ⊢
      exact hq.symm).trans hg) S' 
end
end Mine
end
section
open PySem PySem.Spec PySem.Calls PySem.W PyProof.Rows
open LCg (NsObj ns_obj fr_but)
set_option maxRecDepth 100000
set_option maxHeartbeats 4000000
set_option linter.unusedVariables false
namespace Mine

section
variable {prog : Program} {w : World} {loose : List Str} {mean : ExcName → Option Value} {mg mb : Str → Option Value} {A A₀ : Around} {env cenv : Env} {outer : List Env} {base h₀ h : Heap} {L D : Addr} {lv : Nat} {ns gl : List Str} {vs vs1 vs2 : List (Option Value)} {news nw foot rest dl tl Kp cl : List (Addr × Obj)} {x y n1 n2 : Str} {v u : Value} {p p1 p2 p3 p4 p' np cpos : Pos} {kk : Nat}
variable {gs : Array GenState} {dr : Drawn} {tk : Nat} {os : OsState} {Q E : Value → Shared → Prop} {QF : Flow → Shared → Prop} {e e1 e2 i o a b : Expr} {pos : Pos} {elts : List Expr} {rst : List Stmt} {s : Shared}


/-- StringDecoder -/
theorem str_mk0 : XD prog w 0 295 [(290, tabObj #[])] 2 (LOk SP) := by
  refine ⟨?_⟩
  intro loose mean mg mb A A₀ env outer base h₀ h L ns vs rest gs dr tk os Q E num clr t1 t2 hnum C S k
  have S : St h₀ L h ns vs ([(102, tabObj #[]), (290, tabObj #[])] ++ rest) := S.re (.swap _ _ _)
  refine call_g (cl := []) (foot := [(102, tabObj #[]), (290, tabObj #[])]) (rest := rest) (args := ⟨[.int num t1, .bool false, .bool false, .int num t2, .ref 383, .bool clr], []⟩) (binds := [(Str.ofString "field_number", .int num t1), (Str.ofString "is_repeated", .bool false), (Str.ofString "is_packed", .bool false), (Str.ofString "key", .int num t2), (Str.ofString "new_default", .ref 383), (Str.ofString "clear_if_default", .bool clr)]) (Rel := fun v nw => ∃ f, v = .ref f ∧ (∀ h : Heap, (∀ q ∈ nw, h.get? q.1 = some q.2) → FnAt f h) ∧ FD0 prog w 8 f nw num clr (LOk SP) ∧ GT [(102, tabObj #[]), (290, tabObj #[])] nw) (ns' := [Str.ofString "field_number", Str.ofString "is_repeated", Str.ofString "is_packed", Str.ofString "DecodeRepeatedField", Str.ofString "DecodeField"]) (gl' := [Str.ofString "_DecodeVarint", Str.ofString "TagBytes", Str.ofString "WIRETYPE_LENGTH_DELIMITED", Str.ofString "len"]) C S (K_get C S (by k_is)) rfl (K_code C S (by k_is)) (BindsTo.of_defaults rfl (K_get C S (f := 288) (by k_is)) rfl rfl rfl) (fnEnv_ofG rfl (by decide +kernel) (by decide +kernel) (by decide +kernel) (by decide +kernel)) (vs2 := fun _ => [some (.int num 0), some (.bool false), some (.bool false), none, none]) (nw2 := fun L' => [(L' + 1, cellO (some (.int num t2))), (L' + 1 + 1, cellO (some (.ref 383))), (L' + 1 + 1 + 1, cellO (some (.bool clr))), (L' + 1 + 1 + 1 + 1, cellO none), (L' + 1 + 1 + 1 + 1 + 1, cellO none), (L' + 1 + 1 + 1 + 1 + 1 + 1, cellO none), (L' + 1 + 1 + 1 + 1 + 1 + 1 + 1, cellO none)] ++ ([(102, tabObj #[]), (290, tabObj #[])])) (fun L' => (.loc .hd (.loc (.tl .hd) (.loc (.tl (.tl .hd)) (.cel (by kernel_rfl) (by kernel_rfl) .hd (.cel (by kernel_rfl) (by kernel_rfl) (.tl .hd) (.cel (by kernel_rfl) (by kernel_rfl) (.tl (.tl .hd)) .nil))))))) ?_ ?_
  · intro g L2 h₁ tk₁ env' A' he hA C' N' S' kp Q' E' ret
    have hcode : env'.code = .ref 294 := by rw [he]
    have hq : qualnameIn env' (Str.ofString "DecodeField") (Str.ofString "DecodeField") = Str.ofString "StringDecoder.<locals>.DecodeField" := by rw [he]; kernel_rfl
    have hqc : qualnameIn env' (Str.ofString "_ConvertToUnicode") (Str.ofString "_ConvertToUnicode") = Str.ofString "StringDecoder.<locals>._ConvertToUnicode" := by rw [he]; kernel_rfl
    clear hA kp
    refine x_asg (Ev.use' (Ev.glob N' C' S' (by k_is) (.head _) rfl) fun v2 h2 tk2 n2 s2 => ?_)
    obtain rfl := nt_ref n2
    refine st_cell N'.kind (by rw [he]; kernel_rfl) (by rw [he]; kernel_rfl) (S'.grow s2) (.tl (.tl (.tl (.tl .hd)))) fun h3 S3 => ?_
    refine x_def rfl rfl rfl ?_
    rw [hqc]
    refine w_mk0 (w_tail (clos := []) N' C' S3 hcode (S3.elim fun m F _ => (codeHd_of_K C'.X (by kernel_rfl)).keeps F.keep) (fun c' => (.tl (.tl (.tl (.tl (.tl (.tl (.tl (.tl .hd))))))))) (closure_of (by rw [he]; kernel_rfl)) trivial rfl fun fc cc Pc occ ctvc docc pmc h3 tk3 hcoc S3 => ?_)
    refine S3.name1 fun loc hloc S3 => ?_
    refine st_cell N'.kind (by rw [he]; kernel_rfl) (by rw [he]; kernel_rfl) S3 (.tl (.tl (.tl (.tl (.tl (.tl .hd)))))) fun h3 S3 => ?_
    have cvc : CVC prog w fc [(fc, loc), (cc, occ)] := by
      refine ⟨fun h q => ⟨_, _, _, _, hloc ▸ q _ (.head _)⟩, ?_⟩
      clear S3 S' N' C' k S C
      intro loose mean mg mb A A₀ env outer base h₀ h L ns vs rest gs dr tk os Q E s u tb hs C S hst k
      rw [hloc] at hst
      refine call_g (cl := []) (foot := []) (rest := rest) (args := ⟨[.bytes u.toArray tb], []⟩) (binds := [(Str.ofString "memview", .bytes u.toArray tb)]) (Rel := fun v nw => ∃ t, v = .str s t ∧ nw = []) (ns' := [Str.ofString "memview", Str.ofString "byte_str", Str.ofString "value"]) (gl' := []) C S (hst _ (.head _)) rfl (hcoc _ (hst _ (.tail _ (.head _)))).2 (BindsTo.of_eq rfl) (fnEnv_ofG rfl (by decide +kernel) (by decide +kernel) (by decide +kernel) (by decide +kernel)) (vs2 := fun _ => [some (.bytes u.toArray 0), none, none]) (nw2 := fun L' => []) (fun L' => (.loc .hd .nil)) ?_ ?_
      · intro g L3 h₁ tk₁ env' A' he hA C' N' S' kp Q' E' ret
        clear hA kp he
        refine x_assign N' S' (Ev.loc N' S' .hd) (.tl .hd) fun h2 tk2 S2 => ?_
        refine x_assign N' S2 (Ev.decode hs (Ev.loc N' S2 (.tl .hd))) (.tl (.tl .hd)) fun h3 tk3 S3 => ?_
        refine x_ret (Ev.loc N' S3 (.tl (.tl .hd))) fun v4 h4 tk4 n4 s4 => ?_
        obtain ⟨t4, rfl⟩ := nt_str n4
        exact ret _ _ _ _ _ _ (S3.grow s4) ⟨t4, rfl, rfl⟩
      · rintro v h' tk' nw ⟨t, rfl, rfl⟩ S'
        exact k t h' tk' S' 
    refine x_assert (Ts.cast (d := true) (Ts.not (Ts.bool (Ev.loc N' S3 (.tl (.tl .hd))))) rfl) fun h4 tk4 s4 => ?_
    have S4 := S3.grow s4
    refine x_if (Ts.bool (Ev.loc N' S4 (.tl .hd))) (fun hc => absurd hc (by decide)) fun _ h5 tk5 s5 => ?_
    have S12 := S4.grow s5
    refine x_def1 rfl rfl rfl rfl ?_
    rw [hq]
    refine Ev.use' Ev.int fun v13 h13 tk13 n13 s13 => ?_
    obtain ⟨t13, rfl⟩ := nt_int n13
    refine w_mk1 (S12.grow s13) fun T2 h14 S14 => ?_
    refine w_tail (clos := [(Str.ofString "local_DecodeVarint", L2 + 1 + 1 + 1 + 1 + 1), (Str.ofString "key", L2 + 1), (Str.ofString "clear_if_default", L2 + 1 + 1 + 1), (Str.ofString "_ConvertToUnicode", L2 + 1 + 1 + 1 + 1)]) N' C' S14 hcode (S14.elim fun m F _ => (codeHd_of_K C'.X (by kernel_rfl)).keeps F.keep) (fun c' => (.tl (.tl (.tl (.tl (.tl (.tl (.tl (.tl (.tl (.tl (.tl (.tl .hd))))))))))))) (closure_of (by rw [he]; kernel_rfl)) (by simp [TriplesOk, rawInt]) rfl fun f2 c2 P2 oc3 ctv doc pm h15 tk15 hco2 S15 => ?_
    refine st_loc N' S15 (.tl (.tl (.tl (.tl .hd)))) fun h16 tk16 S16 => ?_
    refine x_ret (Ev.loc N' S16 (.tl (.tl (.tl (.tl .hd))))) fun v17 h17 tk17 n17 s17 => ?_
    obtain rfl := nt_ref n17
    refine ret _ _ _ _ _ _ (S16.grow s17) ⟨f2, rfl, fun h q => ⟨_, _, _, _, q _ (.head _)⟩, ?_, ?_⟩
    rotate_left
    · intro P ps hm
      rcases List.mem_cons.mp hm with e | hm
      · cases e
        exact ⟨_, .tail _ (.tail _ (.tail _ (.tail _ (.tail _ (.tail _ (.tail _ (.tail _ (.tail _ (.tail _ (.tail _ (.tail _ (.tail _ (.tail _ (.head _))))))))))))))⟩
      · cases List.mem_singleton.mp hm
        exact ⟨_, .tail _ (.tail _ (.tail _ (.tail _ (.tail _ (.tail _ (.tail _ (.tail _ (.tail _ (.tail _ (.tail _ (.tail _ (.tail _ (.tail _ (.tail _ (.head _)))))))))))))))⟩
    · clear S16 S15 S14 S12 S4 S3 S' N' C' hcode hq ret S C
      intro loose mean mg mb A A₀ env outer base h₀ h L ns vs vt rest Kp gs dr tk os Q E full pre post oc dt val fin D od kvs tb tp te C S V kx hst hod hkv lo ok hd hz hfin hcutf kO kE
      obtain ⟨u, hou, hul, hP⟩ := ok
      have hul2 := vB_small (n := u.length) (by omega)
      refine call_gx (RelE := fun nw => ∃ vt2, nw = (D, od) :: vt2 ∧ VTs vt2 ∧ (full = false ∨ fin < pre.length + oc.length)) (cl := [(Str.ofString "local_DecodeVarint", L2 + 1 + 1 + 1 + 1 + 1), (Str.ofString "key", L2 + 1), (Str.ofString "clear_if_default", L2 + 1 + 1 + 1), (Str.ofString "_ConvertToUnicode", L2 + 1 + 1 + 1 + 1)]) (foot := (D, od) :: vt) (rest := rest) (args := ⟨[.bytes ((pre ++ dt).toArray) tb, .int pre.length tp, .int fin te, .none, .ref D], []⟩) (binds := [(Str.ofString "buffer", .bytes ((pre ++ dt).toArray) tb), (Str.ofString "pos", .int pre.length tp), (Str.ofString "end", .int fin te), (Str.ofString "message", .none), (Str.ofString "field_dict", .ref D), (Str.ofString "current_depth", .int 0 t13)]) (Rel := fun v nw => full = true ∧ pre.length + oc.length ≤ fin ∧ ∃ v2 t od2 vt2, v = .int (pre.length + oc.length : Nat) t ∧ nt v2 = nt val ∧ VTs vt2 ∧ od2.IsDictOf (intKind prog w) (if clr && isDef val then [] else [(num, v2)]) ∧ nw = (D, od2) :: vt2) (ns' := [Str.ofString "buffer", Str.ofString "pos", Str.ofString "end", Str.ofString "message", Str.ofString "field_dict", Str.ofString "current_depth", Str.ofString "size", Str.ofString "new_pos"]) (gl' := [Str.ofString "DecodeError", Str.ofString "IsDefaultScalarValue"]) C S kx (hst _ (.head _)).1 rfl (hco2 _ (hst _ (.tail _ (.head _))).1).2 (BindsTo.of_defaults rfl (hst (T2, _) (.tail _ (.tail _ (.tail _ (.head _))))).1 rfl rfl rfl) (fnEnv_ofG rfl (by decide +kernel) (by decide +kernel) (by decide +kernel) (by decide +kernel)) (vs2 := fun _ => [some (.bytes ((pre ++ dt).toArray) 0), some (.int pre.length 0), some (.int fin 0), some (.none), some (.ref D), some (.int 0 0), none, none]) (nw2 := fun L' => (D, od) :: vt) (fun L' => (.loc .hd (.loc (.tl .hd) (.loc (.tl (.tl .hd)) (.loc (.tl (.tl (.tl .hd))) (.loc (.tl (.tl (.tl (.tl .hd)))) (.loc (.tl (.tl (.tl (.tl (.tl .hd))))) .nil))))))) ?_ ?_ ?_
      · intro g L3 h₁ tk₁ env' A' he hA C' N' S' kp kx' Q' E' ret rai
        have ceU : CE env' (Str.ofString "_ConvertToUnicode") (L2 + 1 + 1 + 1 + 1) := ⟨.inr (by rw [he]; kernel_rfl), by rw [he]; kernel_rfl, by decide +kernel, by decide +kernel⟩
        have ceC : CE env' (Str.ofString "clear_if_default") (L2 + 1 + 1 + 1) := ⟨.inr (by rw [he]; kernel_rfl), by rw [he]; kernel_rfl, by decide +kernel, by decide +kernel⟩
        have ceK : CE env' (Str.ofString "key") (L2 + 1) := ⟨.inr (by rw [he]; kernel_rfl), by rw [he]; kernel_rfl, by decide +kernel, by decide +kernel⟩
        have ceL : CE env' (Str.ofString "local_DecodeVarint") (L2 + 1 + 1 + 1 + 1 + 1) := ⟨.inr (by rw [he]; kernel_rfl), by rw [he]; kernel_rfl, by decide +kernel, by decide +kernel⟩
        have hstg : Stand _ ((D, od) :: vt) g := fun q hq => ⟨kp q.1 q.2 (fun hm => by
          obtain ⟨r, hr, er⟩ := List.mem_map.mp hm
          exact (hst q hq).2 r hr er) (hst q hq).1, (hst q hq).2⟩
        clear hA kp
        have gU := (hstg (L2 + 1 + 1 + 1 + 1, cellO (some (.ref fc))) (.tail _ (.tail _ (.tail _ (.tail _ (.tail _ (.tail _ (.tail _ (.tail _ (.tail _ (.tail _ (.head _)))))))))))).1
        have gC := (hstg (L2 + 1 + 1 + 1, cellO (some (.bool clr))) (.tail _ (.tail _ (.tail _ (.tail _ (.tail _ (.tail _ (.tail _ (.tail _ (.tail _ (.head _))))))))))).1
        have gK := (hstg (L2 + 1, cellO (some (.int num t2))) (.tail _ (.tail _ (.tail _ (.tail _ (.tail _ (.tail _ (.tail _ (.head _))))))))).1
        have gL := (hstg (L2 + 1 + 1 + 1 + 1 + 1, cellO (some (.ref 142))) (.tail _ (.tail _ (.tail _ (.tail _ (.tail _ (.tail _ (.tail _ (.tail _ (.tail _ (.tail _ (.tail _ (.head _))))))))))))).1
        have gcv : ∀ q ∈ [(fc, loc), (cc, occ)], g.get? q.1 = some q.2 := fun q hq => (hstg q (by simp only [List.mem_cons, List.not_mem_nil, or_false] at hq; rcases hq with rfl | rfl; exact .tail _ (.tail _ (.tail _ (.tail _ (.head _)))); exact .tail _ (.tail _ (.tail _ (.tail _ (.tail _ (.head _))))))).1
        have hi : interactive env' = false := by rw [he]; rfl
        clear hstg hst he
        refine x_pair (h₀ := g) (gs := gs) (dr := dr) (os := os) N' C'.hand (c_fn (a := 142) (Ev.cellH N'.kind ceL (S'.keep gL) rfl) fun h2 tk2 s2 => sp_p ((Ev.loc N' S' .hd).grow s2) fun v3 h3 tk3 n3 s3 => sp_p (((Ev.loc N' S' (.tl .hd)).grow s2).grow s3) fun v4 h4 tk4 n4 s4 => sp_n ?_)
        obtain ⟨t3, rfl⟩ := nt_bytes n3
        obtain ⟨t4', rfl⟩ := nt_int n4
        have S4 := ((S'.grow s2).grow s3).grow s4
        refine ⟨fnAt_K C' S4 (by k_is), ?_⟩
        have e24 : u.length % 2 ^ 64 = u.length := Nat.mod_eq_of_lt (by omega)
        have okl : VOk2 (fun raw => ((raw % 2 ^ 64 : Nat) : Int)) (vB u.length) (.int u.length 0) := ⟨u.length, vB_ok _, by rw [hul2]; simp, by show Value.int (u.length : Int) 0 = Value.int ((u.length % 2 ^ 64 : Nat) : Int) 0; rw [e24]⟩
        have hlen : oc.length = (vB u.length).length + u.length := by rw [hou, List.length_append]
        have hdlt : full = false → dt.length < oc.length := by
          intro hf
          subst hf
          exact hd.lt
        rw [hou] at hd
        rcases hd.split with ⟨d2, hdt, hd2⟩ | ⟨hff2, hcut⟩
        · refine ((es_142.up (by decide)) true pre d2 (vB u.length) dt (.int u.length 0) t3 t4' C' S4.rot V kx' (fun q hq => nomatch hq) okl hdt hz (fun _ T v5 t5 h5 tk5 vt5 n5 V5 S5 => ?_) (fun hf => nomatch hf)).out
          refine ⟨T, v5, _, h5, tk5, _, _, _, _, rfl, rfl, S5, .head _, (.tl (.tl (.tl (.tl (.tl (.tl .hd)))))), (.tl .hd), fun h6 tk6 S6 => ?_⟩
          rw [n5] at S6
          have S6 : St g L3 h6 _ _ ((D, od) :: vt5) := (S6.drop).comm
          refine x_assign N' S6 (Ev.cast (u := .int (pre.length + (vB u.length).length + u.length : Nat) 0) (Ev.add (Ev.loc N' S6 (.tl .hd)) (Ev.loc N' S6 (.tl (.tl (.tl (.tl (.tl (.tl .hd)))))))) (by push_cast; rfl)) (.tl (.tl (.tl (.tl (.tl (.tl (.tl .hd))))))) fun h7 tk7 S7 => ?_
          refine x_if (Ts.gt (Ev.loc N' S7 (.tl (.tl (.tl (.tl (.tl (.tl (.tl .hd)))))))) (Ev.loc N' S7 (.tl (.tl .hd)))) (fun hc h8 tk8 s8 => ?_) fun hc h8 tk8 s8 => x_nil (Nx.go ?_)
          · have hlt := of_decide_eq_true hc
            refine x_raise (c := 37) N' C' (S7.grow s8) (by k_is) (by kernel_rfl) (.head _) Ev.cstr fun h9 h10 e10 tk10 s10 f10 => ?_
            exact rai.new e10 _ h9 h10 tk10 _ _ ((D, od) :: vt5) ((S7.grow s8).grow s10) ⟨vt5, rfl, V5, .inr (by omega)⟩ (.inr (.inl rfl)) f10
          · have hge := of_decide_eq_false hc
            have hfull : full = true := by
              cases full with
              | true => rfl
              | false =>
                have h1 := hcutf rfl
                have h2 := hdlt rfl
                rw [List.length_append] at h1
                omega
            have hd3 := hd2 hfull
            have hbuf : pre ++ dt = (pre ++ vB u.length) ++ (u ++ post) := by rw [hdt, hd3, List.append_assoc]
            have hA : pre.length + (vB u.length).length = (pre ++ vB u.length).length := by simp
            have S8 : St g L3 h8 [Str.ofString "buffer", Str.ofString "pos", Str.ofString "end", Str.ofString "message", Str.ofString "field_dict", Str.ofString "current_depth", Str.ofString "size", Str.ofString "new_pos"] [some (.bytes ((pre ++ vB u.length) ++ (u ++ post)).toArray 0), some (.int ((pre ++ vB u.length).length : Nat) 0), some (.int fin 0), some .none, some (.ref D), some (.int 0 0), some (.int u.length 0), some (.int ((pre ++ vB u.length).length + u.length : Nat) 0)] ((D, od) :: vt5) := by rw [← hbuf, ← hA]; exact S7.grow s8
            have hz5 := hz
            rw [hbuf] at hz5
            have hEND : (pre ++ vB u.length).length + u.length = pre.length + oc.length := by rw [← hA, hlen]; omega
            have hdf : isDef val = (u.length == 0) := SP.dflt hP
            have fin2 : ∀ {p1 p2 : Pos} {rst : List Stmt} v9 od2 h9 tk9, nt v9 = nt val → od2.IsDictOf (intKind prog w) (if clr && isDef val then [] else [(((num : Nat) : Int), v9)]) → St g L3 h9 [Str.ofString "buffer", Str.ofString "pos", Str.ofString "end", Str.ofString "message", Str.ofString "field_dict", Str.ofString "current_depth", Str.ofString "size", Str.ofString "new_pos"] [some (.bytes ((pre ++ vB u.length) ++ (u ++ post)).toArray 0), some (.int ((pre ++ vB u.length).length : Nat) 0), some (.int fin 0), some .none, some (.ref D), some (.int 0 0), some (.int u.length 0), some (.int ((pre ++ vB u.length).length + u.length : Nat) 0)] ((D, od2) :: vt5) → WP prog w A' (execs (.Return (some (.Name (Str.ofString "new_pos") p1)) p2 :: rst) env') Q' E' ⟨h9, gs, dr, tk9, os⟩ := fun v9 od2 h9 tk9 hn9 ho S9 => x_ret (Ev.loc N' S9 (.tl (.tl (.tl (.tl (.tl (.tl (.tl .hd)))))))) fun v10 h10 tk10 n10 s10 => by
              obtain ⟨t10, rfl⟩ := nt_int n10
              have S10 := S9.grow s10
              rw [hEND] at S10 ⊢
              exact ret _ _ _ _ _ _ S10 ⟨hfull, by omega, v9, t10, od2, vt5, rfl, hn9, V5, ho, rfl⟩
            refine x_ifW (WP.mono (Q := fun c s => c = (clr && isDef val) ∧ ∃ h tk, s = ⟨h, gs, dr, tk, os⟩ ∧ St g L3 h [Str.ofString "buffer", Str.ofString "pos", Str.ofString "end", Str.ofString "message", Str.ofString "field_dict", Str.ofString "current_depth", Str.ofString "size", Str.ofString "new_pos"] [some (.bytes ((pre ++ vB u.length) ++ (u ++ post)).toArray 0), some (.int ((pre ++ vB u.length).length : Nat) 0), some (.int fin 0), some .none, some (.ref D), some (.int 0 0), some (.int u.length 0), some (.int ((pre ++ vB u.length).length + u.length : Nat) 0)] ((D, od) :: vt5)) (WB.wp (WB.and ((Ts.bool (Ev.cellH N'.kind ceC (S8.keep gC) rfl)).use _ (stays_refl _) gs dr _ os _ _ fun h9 tk9 s9 => ?_))) ?_)
            · have S9 := S8.grow s9
              cases clr with
              | false => exact ⟨rfl, h9, tk9, rfl, S9⟩
              | true =>
                rw [if_pos rfl]
                refine WB.and (w_tplain (c_fn (a := 121) (Ev.glob N' C' S9 (by k_is) (.tail _ (.head _)) rfl) fun h10 tk10 s10 => sp_p ((Ev.loc N' S9 (.tl (.tl (.tl (.tl (.tl (.tl .hd))))))).grow s10) fun v11 h11 tk11 n11 s11 => sp_n ?_))
                obtain ⟨t11', rfl⟩ := nt_int n11
                have S11 := (S9.grow s10).grow s11
                refine ⟨fnAt_K C' S11 (by k_is), (isdef_ok (v := .int u.length t11') (.inl ⟨_, _, rfl⟩) C' S11 fun h12 tk12 S12 => .mk (wpAny_truthy_bool ?_)).out⟩
                have e10 : isDef (.int (u.length : Int) t11') = isDef val := by
                  rw [hdf]
                  show ((u.length : Int) == 0) = (u.length == 0)
                  cases hu : u.length <;> rfl
                rw [e10]
                cases isDef val with
                | true => rw [if_pos rfl]; exact WB.andN ⟨rfl, h12, tk12, rfl, S12⟩
                | false => rw [if_neg Bool.false_ne_true]; exact ⟨rfl, h12, tk12, rfl, S12⟩
            · rintro c s ⟨hc, h12, tk12, rfl, S12⟩
              cases c with
              | true => 
                rw [if_pos rfl]
                refine x_dpop S12 (fun o' => .hd) hod hkv lo (Ev.loc N' S12 (.tl (.tl (.tl (.tl .hd))))) (Ev.cellH N'.kind ceK (S12.keep gK) rfl) Ev.cnone (fun h13 tk13 od2 ho2 S13 => x_nil (Nx.go (fin2 val od2 h13 tk13 rfl ?_ S13))) hi
                rw [← hc, if_pos rfl]
                exact ho2
              | false =>
                rw [if_neg Bool.false_ne_true]
                refine x_dsetW (n := num) (h₀ := g) (L := L3) (ns := [Str.ofString "buffer", Str.ofString "pos", Str.ofString "end", Str.ofString "message", Str.ofString "field_dict", Str.ofString "current_depth", Str.ofString "size", Str.ofString "new_pos"]) (gs := gs) (dr := dr) (os := os) (c_fn (a := fc) (Ev.cellH N'.kind ceU (S12.keep gU) rfl) fun h13 tk13 s13 => sp_p (Ev.sliceB (xs := (pre ++ vB u.length) ++ (u ++ post)) (ys := u) (a := some ((pre ++ vB u.length).length : Int)) (b := some (((pre ++ vB u.length).length + u.length : Nat) : Int)) (Ev.loc N' (S12.grow s13) .hd) (EvO.some (Ev.loc N' (S12.grow s13) (.tl .hd))) (EvO.some (Ev.loc N' (S12.grow s13) (.tl (.tl (.tl (.tl (.tl (.tl (.tl .hd))))))))) hz5 (slice_at.trans (by rw [List.take_left]))) fun v14 h14 tk14 n14 s14 => sp_n ?_)
                obtain ⟨t14, rfl⟩ := nt_bytes n14
                have S14 := (S12.grow s13).grow s14
                obtain ⟨s0, hs0, hval⟩ := hP
                refine ⟨cvc.fn _ (fun q hq => S14.keep (gcv q hq)), (cvc.run s0 u t14 hs0 (C'.le (by decide)) S14 (fun q hq => S14.keep (gcv q hq)) fun t15 h15 tk15 S15 => ?_).out⟩
                refine ⟨h15, tk15, _, _, D, od, kvs, _, rfl, S15, fun o' => .hd, hod, by rcases hkv with rfl | ⟨v, rfl⟩ <;> simp, Ev.loc N' S15 (.tl (.tl (.tl (.tl .hd)))), Ev.cellH N'.kind ceK (S15.keep gK) rfl, fun h16 tk16 od2 ho2 S16 => x_nil (Nx.go (fin2 (.str s0 t15) od2 h16 tk16 hval.symm ?_ S16))⟩
                rw [← hc, if_neg Bool.false_ne_true]
                have es : ∀ z, stored kvs num z = [(((num : Nat) : Int), z)] := by intro z; rcases hkv with rfl | ⟨v, rfl⟩ <;> simp [stored]
                rw [es] at ho2
                exact ho2
        · refine ((es_142.up (by decide)) false pre [] (vB u.length) dt (.int u.length 0) t3 t4' C' S4.rot V kx' (fun q hq => nomatch hq) okl hcut hz (fun hf => nomatch hf) (fun _ e g₂ m h6 tk6 vt6 F6 V6 R6 => ?_)).out
          exact rai.on e g₂ m h6 tk6 ((D, od) :: vt6) F6.comm ⟨vt6, rfl, V6, .inl hff2⟩ (R6.sub sub_swap)
      · rintro v h' tk' nw ⟨hf, hle, v2, t, od2, vt2, rfl, hn, V2, ho2, rfl⟩ S2
        exact kO hf hle v2 t od2 h' tk' vt2 hn V2 ho2 S2
      · rintro e g₂ m h' tk' nw F2 ⟨vt2, rfl, V2, hf⟩ R
        exact kE hf e g₂ m h' tk' vt2 F2 V2 R
  · rintro v h' tk' nw ⟨f, rfl, hf, hs, hg⟩ S'
    exact k f nw h' tk' hf hs ((GT.sub fun q hq => by
      simp only [List.mem_append, List.mem_cons, List.not_mem_nil, or_false] at hq ⊢
      exact hq.symm).trans hg) S' 
end
end Mine
end
section
open PySem PySem.Spec PySem.Calls PySem.W PyProof.Rows
open LCg (NsObj ns_obj fr_but)
set_option maxRecDepth 100000
set_option maxHeartbeats 4000000
set_option linter.unusedVariables false
namespace Mine

section
variable {prog : Program} {w : World} {loose : List Str} {mean : ExcName → Option Value} {mg mb : Str → Option Value} {A A₀ : Around} {env cenv : Env} {outer : List Env} {base h₀ h : Heap} {L D : Addr} {lv : Nat} {ns gl : List Str} {vs vs1 vs2 : List (Option Value)} {news nw foot rest dl tl Kp cl : List (Addr × Obj)} {x y n1 n2 : Str} {v u : Value} {p p1 p2 p3 p4 p' np cpos : Pos} {kk : Nat}
variable {gs : Array GenState} {dr : Drawn} {tk : Nat} {os : OsState} {Q E : Value → Shared → Prop} {QF : Flow → Shared → Prop} {e e1 e2 i o a b : Expr} {pos : Pos} {elts : List Expr} {rst : List Stmt} {s : Shared}


/-- BytesDecoder -/
theorem byt_mk1 : XD prog w 1 303 [(298, tabObj #[])] 2 (LOk BP) := by
  refine ⟨?_⟩
  intro loose mean mg mb A A₀ env outer base h₀ h L ns vs rest gs dr tk os Q E num clr t1 t2 hnum C S k
  have S : St h₀ L h ns vs ([(102, tabObj #[]), (298, tabObj #[])] ++ rest) := S.re (.swap _ _ _)
  refine call_g (cl := []) (foot := [(102, tabObj #[]), (298, tabObj #[])]) (rest := rest) (args := ⟨[.int num t1, .bool true, .bool false, .int num t2, .ref 383, .bool clr], []⟩) (binds := [(Str.ofString "field_number", .int num t1), (Str.ofString "is_repeated", .bool true), (Str.ofString "is_packed", .bool false), (Str.ofString "key", .int num t2), (Str.ofString "new_default", .ref 383), (Str.ofString "clear_if_default", .bool clr)]) (Rel := fun v nw => ∃ f, v = .ref f ∧ (∀ h : Heap, (∀ q ∈ nw, h.get? q.1 = some q.2) → FnAt f h) ∧ FD1 prog w 8 f nw num (vB (8 * num + 2)) (LOk BP) ∧ GT [(102, tabObj #[]), (298, tabObj #[])] nw) (ns' := [Str.ofString "field_number", Str.ofString "is_repeated", Str.ofString "is_packed", Str.ofString "DecodeRepeatedField", Str.ofString "DecodeField"]) (gl' := [Str.ofString "_DecodeVarint", Str.ofString "TagBytes", Str.ofString "WIRETYPE_LENGTH_DELIMITED", Str.ofString "len"]) C S (K_get C S (by k_is)) rfl (K_code C S (by k_is)) (BindsTo.of_defaults rfl (K_get C S (f := 296) (by k_is)) rfl rfl rfl) (fnEnv_ofG rfl (by decide +kernel) (by decide +kernel) (by decide +kernel) (by decide +kernel)) (vs2 := fun _ => [some (.int num 0), some (.bool true), some (.bool false), none, none]) (nw2 := fun L' => [(L' + 1, cellO (some (.int num t2))), (L' + 1 + 1, cellO (some (.ref 383))), (L' + 1 + 1 + 1, cellO (some (.bool clr))), (L' + 1 + 1 + 1 + 1, cellO none), (L' + 1 + 1 + 1 + 1 + 1, cellO none), (L' + 1 + 1 + 1 + 1 + 1 + 1, cellO none)] ++ ([(102, tabObj #[]), (298, tabObj #[])])) (fun L' => (.loc .hd (.loc (.tl .hd) (.loc (.tl (.tl .hd)) (.cel (by kernel_rfl) (by kernel_rfl) .hd (.cel (by kernel_rfl) (by kernel_rfl) (.tl .hd) (.cel (by kernel_rfl) (by kernel_rfl) (.tl (.tl .hd)) .nil))))))) ?_ ?_
  · intro g L2 h₁ tk₁ env' A' he hA C' N' S' kp Q' E' ret
    have hcode : env'.code = .ref 302 := by rw [he]
    have hq : qualnameIn env' (Str.ofString "DecodeRepeatedField") (Str.ofString "DecodeRepeatedField") = Str.ofString "BytesDecoder.<locals>.DecodeRepeatedField" := by rw [he]; kernel_rfl
    have ceB : CE env' (Str.ofString "tag_bytes") (L2 + 1 + 1 + 1 + 1 + 1) := ⟨.inl (by rw [he]; kernel_rfl), by rw [he]; kernel_rfl, by decide +kernel, by decide +kernel⟩
    clear hA kp
    refine x_asg (Ev.use' (Ev.glob N' C' S' (by k_is) (.head _) rfl) fun v2 h2 tk2 n2 s2 => ?_)
    obtain rfl := nt_ref n2
    refine st_cell N'.kind (by rw [he]; kernel_rfl) (by rw [he]; kernel_rfl) (S'.grow s2) (.tl (.tl (.tl .hd))) fun h3 S3 => ?_
    refine x_assert (Ts.cast (d := true) (Ts.not (Ts.bool (Ev.loc N' S3 (.tl (.tl .hd))))) rfl) fun h4 tk4 s4 => ?_
    have S4 := S3.grow s4
    refine x_if (Ts.bool (Ev.loc N' S4 (.tl .hd))) (fun _ h5 tk5 s5 => ?_) fun hc => absurd hc (by decide)
    have S5 := S4.grow s5
    refine x_asg (c_fn (a := 114) (Ev.glob N' C' S5 (by k_is) (.tail _ (.head _)) rfl) fun h6 tk6 s6 => ?_)
    have S6 := S5.grow s6
    refine sp_p (Ev.loc N' S6 .hd) fun v7 h7 tk7 n7 s7 => sp_p (Ev.glob N' C' (S6.grow s7) (by k_is) (.tail _ (.tail _ (.head _))) rfl) fun v8 h8 tk8 n8 s8 => sp_n ?_
    obtain ⟨t7, rfl⟩ := nt_int n7
    obtain ⟨t8, rfl⟩ := nt_int n8
    have S8 := (S6.grow s7).grow s8
    refine ⟨fnAt_K C' S8 (by k_is), ?_⟩
    have S8' := S8.re ((List.perm_middle (l₁ := [_, _, _, _, _, _]) : List.Perm _ _))
    refine (tag_ok (wt := 2) hnum (by decide) (C'.le (by decide)) S8' fun t9 nw9 h9 tk9 hg9 S9 => ?_).out
    have htl := vB_len 10 (8 * num + 2) (by omega)
    generalize vB (8 * num + 2) = tag at htl ret ⊢
    have S9 := S9.comm
    refine st_cell N'.kind (by rw [he]; kernel_rfl) (by rw [he]; kernel_rfl) S9 (.tl (.tl (.tl (.tl .hd)))) fun h10 S10 => ?_
    refine x_asg (Ev.use' (Ev.cast (u := .int tag.length 0) (Ev.lenB (a := tag.toArray) (Ev.bi N' C' S10 (by k_is) (.tail _ (.tail _ (.tail _ (.head _)))) PyProof.Rows.Boot.«len» (by decide) rfl) (Ev.cell N'.kind ceB S10 (.tail _ (.tail _ (.tail _ (.tail _ (.head _))))) rfl) (by rw [List.size_toArray]; omega)) (by rw [List.size_toArray])) fun v11 h11 tk11 n11 s11 => ?_)
    obtain ⟨t11, rfl⟩ := nt_int n11
    refine st_cell N'.kind (by rw [he]; kernel_rfl) (by rw [he]; kernel_rfl) (S10.grow s11) (.tl (.tl (.tl (.tl (.tl .hd))))) fun h12 S12 => ?_
    refine x_def1 rfl rfl rfl rfl ?_
    rw [hq]
    refine Ev.use' Ev.int fun v13 h13 tk13 n13 s13 => ?_
    obtain ⟨t13, rfl⟩ := nt_int n13
    refine w_mk1 (S12.grow s13) fun T2 h14 S14 => ?_
    refine w_tail (clos := [(Str.ofString "tag_len", L2 + 1 + 1 + 1 + 1 + 1 + 1), (Str.ofString "tag_bytes", L2 + 1 + 1 + 1 + 1 + 1), (Str.ofString "new_default", L2 + 1 + 1), (Str.ofString "local_DecodeVarint", L2 + 1 + 1 + 1 + 1), (Str.ofString "key", L2 + 1)]) N' C' S14 hcode (S14.elim fun m F _ => (codeHd_of_K C'.X (by kernel_rfl)).keeps F.keep) (fun c' => (.tl (.tl (.tl (.tl (.tl (.tl (.tl .hd)))))))) (closure_of (by rw [he]; kernel_rfl)) trivial rfl fun f2 c2 P2 oc3 ctv doc pm h15 tk15 hco2 S15 => ?_
    refine st_loc N' S15 (.tl (.tl (.tl .hd))) fun h16 tk16 S16 => ?_
    refine x_ret (Ev.loc N' S16 (.tl (.tl (.tl .hd)))) fun v17 h17 tk17 n17 s17 => ?_
    obtain rfl := nt_ref n17
    refine ret _ _ _ _ _ _ (S16.grow s17) ⟨f2, rfl, fun h q => ⟨_, _, _, _, q _ (.head _)⟩, ?_, ?_⟩
    rotate_left
    · intro P ps hm
      rcases List.mem_cons.mp hm with e | hm
      · obtain ⟨ps', hp'⟩ := hg9 P ps (e ▸ .head _)
        exact ⟨ps', .tail _ (.tail _ (.tail _ (.tail _ (.tail _ (.tail _ (.tail _ (.tail _ (.tail _ (.tail _ (.tail _ (hp')))))))))))⟩
      · cases List.mem_singleton.mp hm
        exact ⟨_, .tail _ (.tail _ (.tail _ (.tail _ (.tail _ (.tail _ (.tail _ (.tail _ (.tail _ (.tail _ (.head _))))))))))⟩
    · clear S16 S15 S14 S12 S10 S9 S8' S8 S6 S5 S4 S3 S' N' C' hcode hq ret S C
      intro loose mean mg mb A A₀ env outer base h₀ h L ns vs vt rest Kp gs dr tk os Q E full pre post dt pieces fin D its tl tb tp te C S V kx hst Tl lo' hne hpc hd hz hfin hits hover hcutf hsep kO kE
      rw [← List.append_assoc] at S
      refine call_gx (RelE := fun nw => ∃ tl2 vt2 its2, nw = tl2 ++ vt2 ∧ VTs vt2 ∧ (full = false ∨ fin < pre.length + (joinB tag (pieces.map (·.1))).length) ∧ (full = false → its2 = its) ∧ TLm prog w D num its2 tl2) (cl := [(Str.ofString "tag_len", L2 + 1 + 1 + 1 + 1 + 1 + 1), (Str.ofString "tag_bytes", L2 + 1 + 1 + 1 + 1 + 1), (Str.ofString "new_default", L2 + 1 + 1), (Str.ofString "local_DecodeVarint", L2 + 1 + 1 + 1 + 1), (Str.ofString "key", L2 + 1)]) (foot := tl ++ vt) (rest := rest) (args := ⟨[.bytes ((pre ++ dt).toArray) tb, .int pre.length tp, .int fin te, .none, .ref D], []⟩) (binds := [(Str.ofString "buffer", .bytes ((pre ++ dt).toArray) tb), (Str.ofString "pos", .int pre.length tp), (Str.ofString "end", .int fin te), (Str.ofString "message", .none), (Str.ofString "field_dict", .ref D), (Str.ofString "current_depth", .int 0 t13)]) (Rel := fun v nw => full = true ∧ pre.length + (joinB tag (pieces.map (·.1))).length ≤ fin ∧ ∃ vals t tl2 vt2, v = .int (pre.length + (joinB tag (pieces.map (·.1))).length : Nat) t ∧ vals.map nt = pieces.map (fun p => nt p.2) ∧ VTs vt2 ∧ TLm prog w D num (its ++ vals) tl2 ∧ nw = tl2 ++ vt2) (ns' := [Str.ofString "buffer", Str.ofString "pos", Str.ofString "end", Str.ofString "message", Str.ofString "field_dict", Str.ofString "current_depth", Str.ofString "value", Str.ofString "size", Str.ofString "new_pos"]) (gl' := [Str.ofString "DecodeError"]) C S kx (hst _ (.head _)).1 rfl (hco2 _ (hst _ (.tail _ (.head _))).1).2 (BindsTo.of_defaults rfl (hst (T2, _) (.tail _ (.tail _ (.tail _ (.head _))))).1 rfl rfl rfl) (fnEnv_ofG rfl (by decide +kernel) (by decide +kernel) (by decide +kernel) (by decide +kernel)) (vs2 := fun _ => [some (.bytes ((pre ++ dt).toArray) 0), some (.int pre.length 0), some (.int fin 0), some (.none), some (.ref D), some (.int 0 0), none, none, none]) (nw2 := fun L' => tl ++ vt) (fun L' => (.loc .hd (.loc (.tl .hd) (.loc (.tl (.tl .hd)) (.loc (.tl (.tl (.tl .hd))) (.loc (.tl (.tl (.tl (.tl .hd)))) (.loc (.tl (.tl (.tl (.tl (.tl .hd))))) .nil))))))) ?_ ?_ ?_
      · intro g L3 h₁ tk₁ env' A' he hA C' N' S' kp kx' Q' E' ret rai
        have ceK : CE env' (Str.ofString "key") (L2 + 1) := ⟨.inr (by rw [he]; kernel_rfl), by rw [he]; kernel_rfl, by decide +kernel, by decide +kernel⟩
        have ceL : CE env' (Str.ofString "local_DecodeVarint") (L2 + 1 + 1 + 1 + 1) := ⟨.inr (by rw [he]; kernel_rfl), by rw [he]; kernel_rfl, by decide +kernel, by decide +kernel⟩
        have ceN : CE env' (Str.ofString "new_default") (L2 + 1 + 1) := ⟨.inr (by rw [he]; kernel_rfl), by rw [he]; kernel_rfl, by decide +kernel, by decide +kernel⟩
        have ceB : CE env' (Str.ofString "tag_bytes") (L2 + 1 + 1 + 1 + 1 + 1) := ⟨.inr (by rw [he]; kernel_rfl), by rw [he]; kernel_rfl, by decide +kernel, by decide +kernel⟩
        have ceT : CE env' (Str.ofString "tag_len") (L2 + 1 + 1 + 1 + 1 + 1 + 1) := ⟨.inr (by rw [he]; kernel_rfl), by rw [he]; kernel_rfl, by decide +kernel, by decide +kernel⟩
        have hstg : Stand _ (tl ++ vt) g := fun q hq => ⟨kp q.1 q.2 (fun hm => by
          obtain ⟨r, hr, er⟩ := List.mem_map.mp hm
          exact (hst q hq).2 r hr er) (hst q hq).1, (hst q hq).2⟩
        clear hA kp
        have gK := (hstg (L2 + 1, cellO (some (.int num t2))) (.tail _ (.tail _ (.tail _ (.tail _ (.head _)))))).1
        have gL := (hstg (L2 + 1 + 1 + 1 + 1, cellO (some (.ref 142))) (.tail _ (.tail _ (.tail _ (.tail _ (.tail _ (.tail _ (.tail _ (.head _))))))))).1
        have gN := (hstg (L2 + 1 + 1, cellO (some (.ref 383))) (.tail _ (.tail _ (.tail _ (.tail _ (.tail _ (.head _))))))).1
        have gB := (hstg (L2 + 1 + 1 + 1 + 1 + 1, cellO (some (.bytes tag.toArray t9))) (.tail _ (.tail _ (.tail _ (.tail _ (.tail _ (.tail _ (.tail _ (.tail _ (.head _)))))))))).1
        have gT := (hstg (L2 + 1 + 1 + 1 + 1 + 1 + 1, cellO (some (.int tag.length t11))) (.tail _ (.tail _ (.tail _ (.tail _ (.tail _ (.tail _ (.tail _ (.tail _ (.tail _ (.head _))))))))))).1

        have hi : interactive env' = false := by rw [he]; rfl
        clear hstg hst he
        refine x_getlist (cK := L2 + 1) (cN := L2 + 1 + 1) (vsv := fun u => [some (.bytes (pre ++ dt).toArray 0), some (.int pre.length 0), some (.int fin 0), some .none, some (.ref D), some (.int 0 0), u, none, none]) N' C' S' Tl lo' (fun u => (.tl (.tl (.tl (.tl .hd))))) (fun u => (.tl (.tl (.tl .hd)))) (fun u u' => (.tl (.tl (.tl (.tl (.tl (.tl .hd))))))) (fun u => (.tl (.tl (.tl (.tl (.tl (.tl .hd))))))) ceK gK ceN gN fun od l n h2 tk2 hod S2 => ?_
        have S2 : St g L3 h2 [Str.ofString "buffer", Str.ofString "pos", Str.ofString "end", Str.ofString "message", Str.ofString "field_dict", Str.ofString "current_depth", Str.ofString "value", Str.ofString "size", Str.ofString "new_pos"] [some (.bytes (pre ++ dt).toArray 0), some (.int (pre.length : Nat) 0), some (.int fin 0), some .none, some (.ref D), some (.int 0 0), some (.ref l), none, none] ((D, od) :: (l, listOf (its ++ []).toArray n) :: vt) := by rw [List.append_nil]; exact S2
        refine x_whileR rai.own (fun m h => ∃ dn td vals kn vt7 pre2 dt2 u1 u2, pieces = dn ++ td ∧ td ≠ [] ∧ m = td.length ∧ vals.map nt = dn.map (fun p => nt p.2) ∧ VTs vt7 ∧ (full = false → dn = [] ∧ pre2 = pre) ∧
          Dt full post (joinB tag (td.map (·.1))) dt2 ∧ pre2 ++ dt2 = pre ++ dt ∧ pre2.length + (joinB tag (td.map (·.1))).length = pre.length + (joinB tag (pieces.map (·.1))).length ∧
          St g L3 h [Str.ofString "buffer", Str.ofString "pos", Str.ofString "end", Str.ofString "message", Str.ofString "field_dict", Str.ofString "current_depth", Str.ofString "value", Str.ofString "size", Str.ofString "new_pos"] [some (.bytes (pre ++ dt).toArray 0), some (.int (pre2.length : Nat) 0), some (.int fin 0), some .none, some (.ref D), some (.int 0 0), some (.ref l), u1, u2] ((D, od) :: (l, listOf (its ++ vals).toArray kn) :: vt7)) (n := pieces.length) ⟨[], pieces, [], n, vt, pre, dt, none, none, rfl, hne, rfl, rfl, V, fun _ => ⟨rfl, rfl⟩, hd, rfl, rfl, S2⟩ ?_
        rintro m h3 tk3 ⟨dn, td, vals, kn, vt7, pre2, dt2, u1, u2, hp, htd, rfl, hv, V7, hdn, hd2, hb, hl, S3⟩
        refine ⟨_, Ts.int Ev.int, fun _ h4 tk4 s4 => ?_, fun hc => absurd hc (by decide)⟩
        cases td with
        | nil => exact absurd rfl htd
        | cons q r =>
          obtain ⟨⟨u, hou, hul, hP⟩, hq0⟩ := hpc q (by rw [hp]; simp)
          have hul2 := vB_small (n := u.length) (by omega)
          have e24 : u.length % 2 ^ 64 = u.length := Nat.mod_eq_of_lt (by omega)
          have okl : VOk2 (fun raw => ((raw % 2 ^ 64 : Nat) : Int)) (vB u.length) (.int u.length 0) := ⟨u.length, vB_ok _, by rw [hul2]; simp, by show Value.int (u.length : Int) 0 = Value.int ((u.length % 2 ^ 64 : Nat) : Int) 0; rw [e24]⟩
          have hql : q.1.length = (vB u.length).length + u.length := by rw [hou, List.length_append]
          obtain ⟨R, hR⟩ : ∃ R, R = (r.map (·.1)).flatMap (fun y => tag ++ y) := ⟨_, rfl⟩
          rw [List.map_cons, joinB_cons, ← hR] at hd2 hl
          rw [List.length_append] at hl
          have hcut1 : full = false → r = [] ∧ fin < pre2.length + q.1.length := by
            intro hf
            subst hf
            obtain ⟨h1, h2⟩ := hdn rfl
            obtain ⟨p1, hp1⟩ := hover (.inl rfl)
            have hr : r = [] := by rw [hp1, h1] at hp; simp at hp; exact hp.2
            subst hr
            have hR0 : R = [] := hR
            subst hR0
            rw [List.append_nil] at hd2
            have h3 := hd2.lt
            have h4 := hcutf rfl
            rw [← hb, List.length_append] at h4
            exact ⟨rfl, by omega⟩
          rw [hou, List.append_assoc] at hd2
          have S4 : St g L3 h4 _ _ (vt7 ++ [(D, od), (l, listOf (its ++ vals).toArray kn)]) := St.comm (a := [(D, od), (l, listOf (its ++ vals).toArray kn)]) (S3.grow s4)
          refine x_pair (h₀ := g) (gs := gs) (dr := dr) (os := os) N' C'.hand (c_fn (a := 142) (Ev.cellH N'.kind ceL (S4.keep gL) rfl) fun h5 tk5 s5 => sp_p ((Ev.loc N' S4 .hd).grow s5) fun v6 h6 tk6 n6 s6 => sp_p (((Ev.loc N' S4 (.tl .hd)).grow s5).grow s6) fun v7 h7 tk7 n7 s7 => sp_n ?_)
          obtain ⟨t6, rfl⟩ := nt_bytes n6
          obtain ⟨t7', rfl⟩ := nt_int n7
          have S7 := ((S4.grow s5).grow s6).grow s7
          refine ⟨fnAt_K C' S7 (by k_is), ?_⟩
          rw [← hb]
          rw [← hb] at S7 hz
          rcases hd2.split with ⟨d2, hdt, hd3⟩ | ⟨hff2, hcut⟩
          · refine ((es_142.up (by decide)) true pre2 d2 (vB u.length) dt2 (.int u.length 0) t6 t7' C' S7 V7 kx' (fun q hq => nomatch hq) okl hdt hz (fun _ T v8 t8 h8 tk8 vt8 n8 V8 S8 => ?_) (fun hf => nomatch hf)).out
            refine ⟨T, v8, _, h8, tk8, _, _, _, _, rfl, rfl, S8, .head _, (.tl (.tl (.tl (.tl (.tl (.tl (.tl .hd))))))), .tl .hd, fun h9 tk9 S9 => ?_⟩
            rw [n8] at S9
            have S9 : St g L3 h9 _ _ ((D, od) :: (l, listOf (its ++ vals).toArray kn) :: vt8) := (S9.drop).comm
            refine x_assign N' S9 (Ev.cast (u := .int (pre2.length + (vB u.length).length + u.length : Nat) 0) (Ev.add (Ev.loc N' S9 (.tl .hd)) (Ev.loc N' S9 (.tl (.tl (.tl (.tl (.tl (.tl (.tl .hd))))))))) (by push_cast; rfl)) (.tl (.tl (.tl (.tl (.tl (.tl (.tl (.tl .hd)))))))) fun h10 tk10 S10 => ?_
            refine x_if (Ts.gt (Ev.loc N' S10 (.tl (.tl (.tl (.tl (.tl (.tl (.tl (.tl .hd))))))))) (Ev.loc N' S10 (.tl (.tl .hd)))) (fun hc h11 tk11 s11 => ?_) fun hc h11 tk11 s11 => x_nil (Nx.go ?_)
            · have hlt := of_decide_eq_true hc
              refine x_raise (c := 37) N' C' (S10.grow s11) (by k_is) (by kernel_rfl) (.head _) Ev.cstr fun h12 h13 e13 tk13 s13 f13 => ?_
              exact rai.new e13 _ h12 h13 tk13 _ _ _ ((S10.grow s11).grow s13) ⟨[(D, od), (l, listOf (its ++ vals).toArray kn)], vt8, its ++ vals, rfl, V8, .inr (by omega), (fun hf => by
                have h1 := (hdn hf).1
                rw [h1] at hv
                rw [List.map_eq_nil_iff.mp hv, List.append_nil]), od, l, kn, rfl, hod⟩ (.inr (.inl rfl)) f13
            · have hge := of_decide_eq_false hc
              have hfull : full = true := by
                cases full with
                | true => rfl
                | false => have := (hcut1 rfl).2; omega
              have hd4 := hd3 hfull
              have hbuf : pre2 ++ dt2 = ((pre2 ++ vB u.length) ++ (u ++ (R ++ post))) := by rw [hdt, hd4]; simp only [List.append_assoc]
              have hA : pre2.length + (vB u.length).length = (pre2 ++ vB u.length).length := by simp
              have S14 : St g L3 h11 [Str.ofString "buffer", Str.ofString "pos", Str.ofString "end", Str.ofString "message", Str.ofString "field_dict", Str.ofString "current_depth", Str.ofString "value", Str.ofString "size", Str.ofString "new_pos"] [some (.bytes ((pre2 ++ vB u.length) ++ (u ++ (R ++ post))).toArray 0), some (.int ((pre2 ++ vB u.length).length : Nat) 0), some (.int fin 0), some .none, some (.ref D), some (.int 0 0), some (.ref l), some (.int u.length 0), some (.int ((pre2 ++ vB u.length).length + u.length : Nat) 0)] ((D, od) :: (l, listOf (its ++ vals).toArray kn) :: vt8) := by rw [← hbuf, ← hA]; exact S10.grow s11
              have hz5 := hz
              rw [hbuf] at hz5
              have hvl : vals.length = dn.length := by have := congrArg List.length hv; simpa using this
              have hpl : pieces.length = dn.length + (r.length + 1) := by rw [hp]; simp
              refine x_appendW (u := nt q.2) S14 (Ev.loc N' S14 (.tl (.tl (.tl (.tl (.tl (.tl .hd))))))) (fun v' => .tl .hd) (by simp only [List.size_toArray, List.length_append]; omega) (fun h14 tk14 S14 => Ev.use' (Ev.sliceB (xs := (pre2 ++ vB u.length) ++ (u ++ (R ++ post))) (ys := u) (a := some ((pre2 ++ vB u.length).length : Int)) (b := some (((pre2 ++ vB u.length).length + u.length : Nat) : Int)) (Ev.loc N' S14 .hd) (EvO.some (Ev.loc N' S14 (.tl .hd))) (EvO.some (Ev.loc N' S14 (.tl (.tl (.tl (.tl (.tl (.tl (.tl (.tl .hd)))))))))) hz5 (slice_at.trans (by rw [List.take_left]))) fun v15 h15 tk15 n15 s15 => ?_) (fun v17 h17 tk17 n17 S17 => ?_) hi
              · exact ⟨h15, tk15, rfl, S14.grow s15, n15.trans hP.symm⟩
              have el : (its ++ vals).toArray.push v17 = (its ++ (vals ++ [v17])).toArray := by simp
              rw [el] at S17
              have hv2 : (vals ++ [v17]).map nt = (dn ++ [q]).map (fun p => nt p.2) := by rw [List.map_append, hv, List.map_append]; simp [n17]
              have ea : ((pre2 ++ vB u.length) ++ (u ++ (R ++ post))) = (((pre2 ++ vB u.length) ++ u) ++ (R ++ post)) := by rw [List.append_assoc (pre2 ++ vB u.length) u]
              rw [ea] at S17 hz5
              have hA2 : (pre2 ++ vB u.length).length + u.length = ((pre2 ++ vB u.length) ++ u).length := by rw [List.length_append (as := (pre2 ++ vB u.length))]
              rw [hA2] at S17
              refine x_assign N' S17 (Ev.cast (u := .int (((pre2 ++ vB u.length) ++ u).length + tag.length : Nat) 0) (Ev.add (Ev.loc N' S17 (.tl (.tl (.tl (.tl (.tl (.tl (.tl (.tl .hd))))))))) (Ev.cellH N'.kind ceT (S17.keep gT) rfl)) (by push_cast; rfl)) (.tl .hd) fun h18 tk18 S18 => ?_
              refine x_if (TsB.ts (TsB.or (Ts.neB (xs := (R ++ post).take tag.length) (ys := tag) (Ev.sliceB (xs := (((pre2 ++ vB u.length) ++ u) ++ (R ++ post))) (a := some (((pre2 ++ vB u.length) ++ u).length : Int)) (b := some ((((pre2 ++ vB u.length) ++ u).length + tag.length : Nat) : Int)) (Ev.loc N' S18 .hd) (EvO.some (Ev.loc N' S18 (.tl (.tl (.tl (.tl (.tl (.tl (.tl (.tl .hd)))))))))) (EvO.some (Ev.loc N' S18 (.tl .hd))) hz5 slice_at) (Ev.cellH N'.kind ceB (S18.keep gB) rfl)) fun _ => TsB.or (Ts.eq (Ev.loc N' S18 (.tl (.tl (.tl (.tl (.tl (.tl (.tl (.tl .hd))))))))) (Ev.loc N' S18 (.tl (.tl .hd)))) fun _ => TsB.orN)) (fun hc h19 tk19 s19 => ?_) fun hc h19 tk19 s19 => x_nil (Nx.go (x_nil ?_))
              · have S19 := S18.grow s19
                have hr : r = [] := by
                  cases r with
                  | nil => rfl
                  | cons q2 r2 =>
                    exfalso
                    have e1 : (R ++ post).take tag.length = tag := by rw [hR, List.map_cons, List.flatMap_cons, List.append_assoc, List.append_assoc, List.take_left]
                    rw [e1] at hc
                    have h1 : ((((pre2 ++ vB u.length) ++ u).length : Nat) : Int) = fin := by simpa using hc
                    have h2 := (hpc q2 (by rw [hp]; simp)).2
                    have h3 : q2.1.length ≤ R.length := by rw [hR, List.map_cons, List.flatMap_cons]; simp only [List.length_append]; omega
                    rw [← hA2, ← hA] at h1
                    obtain ⟨p1, hp1⟩ := hover (.inr (by omega))
                    rw [hp1] at hpl
                    simp at hpl
                    omega
                subst hr
                have hR0 : R = [] := hR
                subst hR0
                have hp' : pieces = dn ++ [q] := by rw [hp]
                have hnp : ((pre2 ++ vB u.length) ++ u).length = pre.length + (joinB tag (pieces.map (·.1))).length := by rw [← hl, ← hA2, ← hA, hql]; simp only [List.length_nil]; omega
                rw [hnp] at S19
                refine x_ret (Ev.loc N' S19 (.tl (.tl (.tl (.tl (.tl (.tl (.tl (.tl .hd))))))))) fun v20 h20 tk20 n20 s20 => ?_
                obtain ⟨t20, rfl⟩ := nt_int n20
                exact ret _ _ _ _ _ _ (S19.grow s20) ⟨hfull, by rw [← hnp, ← hA2, ← hA]; omega, vals ++ [v17], t20, [(D, od), (l, listOf (its ++ (vals ++ [v17])).toArray (kn + 1))], vt8, rfl, by rw [hv2, hp'], V8, ⟨od, l, kn + 1, rfl, hod⟩, rfl⟩
              · have S19 := S18.grow s19
                cases r with
                | nil =>
                  exfalso
                  have hR0 : R = [] := hR
                  subst hR0
                  rw [List.nil_append] at hc
                  obtain ⟨h1, h2⟩ := (Bool.or_eq_false_iff).mp hc
                  have h2 : ¬ ((((pre2 ++ vB u.length) ++ u).length : Nat) : Int) = fin := by simpa using h2
                  have h1 : post.take tag.length = tag := by simpa using h1
                  rw [← hA2, ← hA] at h2
                  rcases hsep hfull with h3 | h3
                  · simp only [List.length_nil] at hl
                    omega
                  · exact h3 h1
                | cons q2 r2 =>
                  have hR2 : R = tag ++ joinB tag ((q2 :: r2).map (·.1)) := by rw [hR, List.map_cons, List.flatMap_cons, joinB_cons, List.append_assoc]
                  have hbuf2 : (((pre2 ++ vB u.length) ++ u) ++ (R ++ post)) = pre2 ++ dt2 := by rw [hbuf, ea]
                  rw [hbuf2] at S19
                  refine LK.go (m := (q2 :: r2).length) (by simp) ⟨dn ++ [q], q2 :: r2, vals ++ [v17], kn + 1, vt8, ((pre2 ++ vB u.length) ++ u) ++ tag, joinB tag ((q2 :: r2).map (·.1)) ++ post, some (.int u.length 0), some (.int (((pre2 ++ vB u.length) ++ u).length : Nat) 0), by rw [hp]; simp, by simp, rfl, hv2, V8, (fun hf => by rw [hfull] at hf; cases hf), (by rw [hfull]; rfl), ?_, ?_, ?_⟩
                  · rw [← hbuf2, hR2]; simp only [List.append_assoc]
                  · rw [← hl, hR2, hql]; simp only [List.length_append]; omega
                  · rw [List.length_append (bs := tag)]
                    exact S19
          · refine ((es_142.up (by decide)) false pre2 [] (vB u.length) dt2 (.int u.length 0) t6 t7' C' S7 V7 kx' (fun q hq => nomatch hq) okl hcut hz (fun hf => nomatch hf) (fun _ e g₂ m h8 tk8 vt8 F8 V8 R8 => ?_)).out
            have hv0 : vals = [] := by rw [(hdn hff2).1] at hv; exact List.map_eq_nil_iff.mp hv
            subst hv0
            exact rai.on e g₂ m h8 tk8 ([(D, od), (l, listOf (its ++ []).toArray kn)] ++ vt8) F8.comm ⟨[(D, od), (l, listOf (its ++ []).toArray kn)], vt8, its ++ [], rfl, V8, .inl hff2, fun _ => List.append_nil _, od, l, kn, rfl, hod⟩ (R8.sub sub_swap2)
      · rintro v h' tk' nw ⟨h2, h3, vals, t, tl2, vt2, rfl, hv, V2, ht, rfl⟩ S2
        exact kO h2 h3 vals t h' tk' vt2 tl2 hv V2 ht (by rw [List.append_assoc] at S2; exact S2)
      · rintro e g₂ m h' tk' nw F2 ⟨tl2, vt2, its2, rfl, V2, hc, hi, ht⟩ R
        rw [List.append_assoc] at R
        exact kE hc e g₂ m h' tk' vt2 tl2 its2 F2.assoc V2 hi ht R
  · rintro v h' tk' nw ⟨f, rfl, hf, hs, hg⟩ S'
    exact k f nw h' tk' hf hs ((GT.sub fun q hq => by
      simp only [List.mem_append, List.mem_cons, List.not_mem_nil, or_false] at hq ⊢
      exact hq.symm).trans hg) S' 
end
end Mine
end
section
open PySem PySem.Spec PySem.Calls PySem.W PyProof.Rows
open LCg (NsObj ns_obj fr_but)
set_option maxRecDepth 100000
set_option maxHeartbeats 4000000
set_option linter.unusedVariables false
namespace Mine

section
variable {prog : Program} {w : World} {loose : List Str} {mean : ExcName → Option Value} {mg mb : Str → Option Value} {A A₀ : Around} {env cenv : Env} {outer : List Env} {base h₀ h : Heap} {L D : Addr} {lv : Nat} {ns gl : List Str} {vs vs1 vs2 : List (Option Value)} {news nw foot rest dl tl Kp cl : List (Addr × Obj)} {x y n1 n2 : Str} {v u : Value} {p p1 p2 p3 p4 p' np cpos : Pos} {kk : Nat}
variable {gs : Array GenState} {dr : Drawn} {tk : Nat} {os : OsState} {Q E : Value → Shared → Prop} {QF : Flow → Shared → Prop} {e e1 e2 i o a b : Expr} {pos : Pos} {elts : List Expr} {rst : List Stmt} {s : Shared}


/-- StringDecoder -/
theorem str_mk1 : XD prog w 1 295 [(290, tabObj #[])] 2 (LOk SP) := by
  refine ⟨?_⟩
  intro loose mean mg mb A A₀ env outer base h₀ h L ns vs rest gs dr tk os Q E num clr t1 t2 hnum C S k
  have S : St h₀ L h ns vs ([(102, tabObj #[]), (290, tabObj #[])] ++ rest) := S.re (.swap _ _ _)
  refine call_g (cl := []) (foot := [(102, tabObj #[]), (290, tabObj #[])]) (rest := rest) (args := ⟨[.int num t1, .bool true, .bool false, .int num t2, .ref 383, .bool clr], []⟩) (binds := [(Str.ofString "field_number", .int num t1), (Str.ofString "is_repeated", .bool true), (Str.ofString "is_packed", .bool false), (Str.ofString "key", .int num t2), (Str.ofString "new_default", .ref 383), (Str.ofString "clear_if_default", .bool clr)]) (Rel := fun v nw => ∃ f, v = .ref f ∧ (∀ h : Heap, (∀ q ∈ nw, h.get? q.1 = some q.2) → FnAt f h) ∧ FD1 prog w 8 f nw num (vB (8 * num + 2)) (LOk SP) ∧ GT [(102, tabObj #[]), (290, tabObj #[])] nw) (ns' := [Str.ofString "field_number", Str.ofString "is_repeated", Str.ofString "is_packed", Str.ofString "DecodeRepeatedField", Str.ofString "DecodeField"]) (gl' := [Str.ofString "_DecodeVarint", Str.ofString "TagBytes", Str.ofString "WIRETYPE_LENGTH_DELIMITED", Str.ofString "len"]) C S (K_get C S (by k_is)) rfl (K_code C S (by k_is)) (BindsTo.of_defaults rfl (K_get C S (f := 288) (by k_is)) rfl rfl rfl) (fnEnv_ofG rfl (by decide +kernel) (by decide +kernel) (by decide +kernel) (by decide +kernel)) (vs2 := fun _ => [some (.int num 0), some (.bool true), some (.bool false), none, none]) (nw2 := fun L' => [(L' + 1, cellO (some (.int num t2))), (L' + 1 + 1, cellO (some (.ref 383))), (L' + 1 + 1 + 1, cellO (some (.bool clr))), (L' + 1 + 1 + 1 + 1, cellO none), (L' + 1 + 1 + 1 + 1 + 1, cellO none), (L' + 1 + 1 + 1 + 1 + 1 + 1, cellO none), (L' + 1 + 1 + 1 + 1 + 1 + 1 + 1, cellO none)] ++ ([(102, tabObj #[]), (290, tabObj #[])])) (fun L' => (.loc .hd (.loc (.tl .hd) (.loc (.tl (.tl .hd)) (.cel (by kernel_rfl) (by kernel_rfl) .hd (.cel (by kernel_rfl) (by kernel_rfl) (.tl .hd) (.cel (by kernel_rfl) (by kernel_rfl) (.tl (.tl .hd)) .nil))))))) ?_ ?_
  · intro g L2 h₁ tk₁ env' A' he hA C' N' S' kp Q' E' ret
    have hcode : env'.code = .ref 294 := by rw [he]
    have hq : qualnameIn env' (Str.ofString "DecodeRepeatedField") (Str.ofString "DecodeRepeatedField") = Str.ofString "StringDecoder.<locals>.DecodeRepeatedField" := by rw [he]; kernel_rfl
    have hqc : qualnameIn env' (Str.ofString "_ConvertToUnicode") (Str.ofString "_ConvertToUnicode") = Str.ofString "StringDecoder.<locals>._ConvertToUnicode" := by rw [he]; kernel_rfl
    have ceB : CE env' (Str.ofString "tag_bytes") (L2 + 1 + 1 + 1 + 1 + 1 + 1) := ⟨.inl (by rw [he]; kernel_rfl), by rw [he]; kernel_rfl, by decide +kernel, by decide +kernel⟩
    clear hA kp
    refine x_asg (Ev.use' (Ev.glob N' C' S' (by k_is) (.head _) rfl) fun v2 h2 tk2 n2 s2 => ?_)
    obtain rfl := nt_ref n2
    refine st_cell N'.kind (by rw [he]; kernel_rfl) (by rw [he]; kernel_rfl) (S'.grow s2) (.tl (.tl (.tl (.tl .hd)))) fun h3 S3 => ?_
    refine x_def rfl rfl rfl ?_
    rw [hqc]
    refine w_mk0 (w_tail (clos := []) N' C' S3 hcode (S3.elim fun m F _ => (codeHd_of_K C'.X (by kernel_rfl)).keeps F.keep) (fun c' => (.tl (.tl (.tl (.tl (.tl (.tl (.tl (.tl .hd))))))))) (closure_of (by rw [he]; kernel_rfl)) trivial rfl fun fc cc Pc occ ctvc docc pmc h3 tk3 hcoc S3 => ?_)
    refine S3.name1 fun loc hloc S3 => ?_
    refine st_cell N'.kind (by rw [he]; kernel_rfl) (by rw [he]; kernel_rfl) S3 (.tl (.tl (.tl (.tl (.tl (.tl .hd)))))) fun h3 S3 => ?_
    have cvc : CVC prog w fc [(fc, loc), (cc, occ)] := by
      refine ⟨fun h q => ⟨_, _, _, _, hloc ▸ q _ (.head _)⟩, ?_⟩
      clear S3 S' N' C' k S C
      intro loose mean mg mb A A₀ env outer base h₀ h L ns vs rest gs dr tk os Q E s u tb hs C S hst k
      rw [hloc] at hst
      refine call_g (cl := []) (foot := []) (rest := rest) (args := ⟨[.bytes u.toArray tb], []⟩) (binds := [(Str.ofString "memview", .bytes u.toArray tb)]) (Rel := fun v nw => ∃ t, v = .str s t ∧ nw = []) (ns' := [Str.ofString "memview", Str.ofString "byte_str", Str.ofString "value"]) (gl' := []) C S (hst _ (.head _)) rfl (hcoc _ (hst _ (.tail _ (.head _)))).2 (BindsTo.of_eq rfl) (fnEnv_ofG rfl (by decide +kernel) (by decide +kernel) (by decide +kernel) (by decide +kernel)) (vs2 := fun _ => [some (.bytes u.toArray 0), none, none]) (nw2 := fun L' => []) (fun L' => (.loc .hd .nil)) ?_ ?_
      · intro g L3 h₁ tk₁ env' A' he hA C' N' S' kp Q' E' ret
        clear hA kp he
        refine x_assign N' S' (Ev.loc N' S' .hd) (.tl .hd) fun h2 tk2 S2 => ?_
        refine x_assign N' S2 (Ev.decode hs (Ev.loc N' S2 (.tl .hd))) (.tl (.tl .hd)) fun h3 tk3 S3 => ?_
        refine x_ret (Ev.loc N' S3 (.tl (.tl .hd))) fun v4 h4 tk4 n4 s4 => ?_
        obtain ⟨t4, rfl⟩ := nt_str n4
        exact ret _ _ _ _ _ _ (S3.grow s4) ⟨t4, rfl, rfl⟩
      · rintro v h' tk' nw ⟨t, rfl, rfl⟩ S'
        exact k t h' tk' S' 
    refine x_assert (Ts.cast (d := true) (Ts.not (Ts.bool (Ev.loc N' S3 (.tl (.tl .hd))))) rfl) fun h4 tk4 s4 => ?_
    have S4 := S3.grow s4
    refine x_if (Ts.bool (Ev.loc N' S4 (.tl .hd))) (fun _ h5 tk5 s5 => ?_) fun hc => absurd hc (by decide)
    have S5 := S4.grow s5
    refine x_asg (c_fn (a := 114) (Ev.glob N' C' S5 (by k_is) (.tail _ (.head _)) rfl) fun h6 tk6 s6 => ?_)
    have S6 := S5.grow s6
    refine sp_p (Ev.loc N' S6 .hd) fun v7 h7 tk7 n7 s7 => sp_p (Ev.glob N' C' (S6.grow s7) (by k_is) (.tail _ (.tail _ (.head _))) rfl) fun v8 h8 tk8 n8 s8 => sp_n ?_
    obtain ⟨t7, rfl⟩ := nt_int n7
    obtain ⟨t8, rfl⟩ := nt_int n8
    have S8 := (S6.grow s7).grow s8
    refine ⟨fnAt_K C' S8 (by k_is), ?_⟩
    have S8' := S8.re ((List.perm_middle (l₁ := [_, _, _, _, _, _, _, _, _, _]) : List.Perm _ _))
    refine (tag_ok (wt := 2) hnum (by decide) (C'.le (by decide)) S8' fun t9 nw9 h9 tk9 hg9 S9 => ?_).out
    have htl := vB_len 10 (8 * num + 2) (by omega)
    generalize vB (8 * num + 2) = tag at htl ret ⊢
    have S9 := S9.comm
    refine st_cell N'.kind (by rw [he]; kernel_rfl) (by rw [he]; kernel_rfl) S9 (.tl (.tl (.tl (.tl (.tl (.tl (.tl (.tl .hd)))))))) fun h10 S10 => ?_
    refine x_asg (Ev.use' (Ev.cast (u := .int tag.length 0) (Ev.lenB (a := tag.toArray) (Ev.bi N' C' S10 (by k_is) (.tail _ (.tail _ (.tail _ (.head _)))) PyProof.Rows.Boot.«len» (by decide) rfl) (Ev.cell N'.kind ceB S10 (.tail _ (.tail _ (.tail _ (.tail _ (.tail _ (.tail _ (.tail _ (.tail _ (.head _))))))))) rfl) (by rw [List.size_toArray]; omega)) (by rw [List.size_toArray])) fun v11 h11 tk11 n11 s11 => ?_)
    obtain ⟨t11, rfl⟩ := nt_int n11
    refine st_cell N'.kind (by rw [he]; kernel_rfl) (by rw [he]; kernel_rfl) (S10.grow s11) (.tl (.tl (.tl (.tl (.tl (.tl (.tl (.tl (.tl .hd))))))))) fun h12 S12 => ?_
    refine x_def1 rfl rfl rfl rfl ?_
    rw [hq]
    refine Ev.use' Ev.int fun v13 h13 tk13 n13 s13 => ?_
    obtain ⟨t13, rfl⟩ := nt_int n13
    refine w_mk1 (S12.grow s13) fun T2 h14 S14 => ?_
    refine w_tail (clos := [(Str.ofString "tag_len", L2 + 1 + 1 + 1 + 1 + 1 + 1 + 1), (Str.ofString "tag_bytes", L2 + 1 + 1 + 1 + 1 + 1 + 1), (Str.ofString "new_default", L2 + 1 + 1), (Str.ofString "local_DecodeVarint", L2 + 1 + 1 + 1 + 1 + 1), (Str.ofString "key", L2 + 1), (Str.ofString "_ConvertToUnicode", L2 + 1 + 1 + 1 + 1)]) N' C' S14 hcode (S14.elim fun m F _ => (codeHd_of_K C'.X (by kernel_rfl)).keeps F.keep) (fun c' => (.tl (.tl (.tl (.tl (.tl (.tl (.tl (.tl (.tl (.tl (.tl .hd)))))))))))) (closure_of (by rw [he]; kernel_rfl)) (by simp [TriplesOk, rawInt]) rfl fun f2 c2 P2 oc3 ctv doc pm h15 tk15 hco2 S15 => ?_
    refine st_loc N' S15 (.tl (.tl (.tl .hd))) fun h16 tk16 S16 => ?_
    refine x_ret (Ev.loc N' S16 (.tl (.tl (.tl .hd)))) fun v17 h17 tk17 n17 s17 => ?_
    obtain rfl := nt_ref n17
    refine ret _ _ _ _ _ _ (S16.grow s17) ⟨f2, rfl, fun h q => ⟨_, _, _, _, q _ (.head _)⟩, ?_, ?_⟩
    rotate_left
    · intro P ps hm
      rcases List.mem_cons.mp hm with e | hm
      · obtain ⟨ps', hp'⟩ := hg9 P ps (e ▸ .head _)
        exact ⟨ps', .tail _ (.tail _ (.tail _ (.tail _ (.tail _ (.tail _ (.tail _ (.tail _ (.tail _ (.tail _ (.tail _ (.tail _ (.tail _ (.tail _ (.tail _ (hp')))))))))))))))⟩
      · cases List.mem_singleton.mp hm
        exact ⟨_, .tail _ (.tail _ (.tail _ (.tail _ (.tail _ (.tail _ (.tail _ (.tail _ (.tail _ (.tail _ (.tail _ (.tail _ (.tail _ (.tail _ (.head _))))))))))))))⟩
    · clear S16 S15 S14 S12 S10 S9 S8' S8 S6 S5 S4 S3 S' N' C' hcode hq ret S C
      intro loose mean mg mb A A₀ env outer base h₀ h L ns vs vt rest Kp gs dr tk os Q E full pre post dt pieces fin D its tl tb tp te C S V kx hst Tl lo' hne hpc hd hz hfin hits hover hcutf hsep kO kE
      rw [← List.append_assoc] at S
      refine call_gx (RelE := fun nw => ∃ tl2 vt2 its2, nw = tl2 ++ vt2 ∧ VTs vt2 ∧ (full = false ∨ fin < pre.length + (joinB tag (pieces.map (·.1))).length) ∧ (full = false → its2 = its) ∧ TLm prog w D num its2 tl2) (cl := [(Str.ofString "tag_len", L2 + 1 + 1 + 1 + 1 + 1 + 1 + 1), (Str.ofString "tag_bytes", L2 + 1 + 1 + 1 + 1 + 1 + 1), (Str.ofString "new_default", L2 + 1 + 1), (Str.ofString "local_DecodeVarint", L2 + 1 + 1 + 1 + 1 + 1), (Str.ofString "key", L2 + 1), (Str.ofString "_ConvertToUnicode", L2 + 1 + 1 + 1 + 1)]) (foot := tl ++ vt) (rest := rest) (args := ⟨[.bytes ((pre ++ dt).toArray) tb, .int pre.length tp, .int fin te, .none, .ref D], []⟩) (binds := [(Str.ofString "buffer", .bytes ((pre ++ dt).toArray) tb), (Str.ofString "pos", .int pre.length tp), (Str.ofString "end", .int fin te), (Str.ofString "message", .none), (Str.ofString "field_dict", .ref D), (Str.ofString "current_depth", .int 0 t13)]) (Rel := fun v nw => full = true ∧ pre.length + (joinB tag (pieces.map (·.1))).length ≤ fin ∧ ∃ vals t tl2 vt2, v = .int (pre.length + (joinB tag (pieces.map (·.1))).length : Nat) t ∧ vals.map nt = pieces.map (fun p => nt p.2) ∧ VTs vt2 ∧ TLm prog w D num (its ++ vals) tl2 ∧ nw = tl2 ++ vt2) (ns' := [Str.ofString "buffer", Str.ofString "pos", Str.ofString "end", Str.ofString "message", Str.ofString "field_dict", Str.ofString "current_depth", Str.ofString "value", Str.ofString "size", Str.ofString "new_pos"]) (gl' := [Str.ofString "DecodeError"]) C S kx (hst _ (.head _)).1 rfl (hco2 _ (hst _ (.tail _ (.head _))).1).2 (BindsTo.of_defaults rfl (hst (T2, _) (.tail _ (.tail _ (.tail _ (.head _))))).1 rfl rfl rfl) (fnEnv_ofG rfl (by decide +kernel) (by decide +kernel) (by decide +kernel) (by decide +kernel)) (vs2 := fun _ => [some (.bytes ((pre ++ dt).toArray) 0), some (.int pre.length 0), some (.int fin 0), some (.none), some (.ref D), some (.int 0 0), none, none, none]) (nw2 := fun L' => tl ++ vt) (fun L' => (.loc .hd (.loc (.tl .hd) (.loc (.tl (.tl .hd)) (.loc (.tl (.tl (.tl .hd))) (.loc (.tl (.tl (.tl (.tl .hd)))) (.loc (.tl (.tl (.tl (.tl (.tl .hd))))) .nil))))))) ?_ ?_ ?_
      · intro g L3 h₁ tk₁ env' A' he hA C' N' S' kp kx' Q' E' ret rai
        have ceU : CE env' (Str.ofString "_ConvertToUnicode") (L2 + 1 + 1 + 1 + 1) := ⟨.inr (by rw [he]; kernel_rfl), by rw [he]; kernel_rfl, by decide +kernel, by decide +kernel⟩
        have ceK : CE env' (Str.ofString "key") (L2 + 1) := ⟨.inr (by rw [he]; kernel_rfl), by rw [he]; kernel_rfl, by decide +kernel, by decide +kernel⟩
        have ceL : CE env' (Str.ofString "local_DecodeVarint") (L2 + 1 + 1 + 1 + 1 + 1) := ⟨.inr (by rw [he]; kernel_rfl), by rw [he]; kernel_rfl, by decide +kernel, by decide +kernel⟩
        have ceN : CE env' (Str.ofString "new_default") (L2 + 1 + 1) := ⟨.inr (by rw [he]; kernel_rfl), by rw [he]; kernel_rfl, by decide +kernel, by decide +kernel⟩
        have ceB : CE env' (Str.ofString "tag_bytes") (L2 + 1 + 1 + 1 + 1 + 1 + 1) := ⟨.inr (by rw [he]; kernel_rfl), by rw [he]; kernel_rfl, by decide +kernel, by decide +kernel⟩
        have ceT : CE env' (Str.ofString "tag_len") (L2 + 1 + 1 + 1 + 1 + 1 + 1 + 1) := ⟨.inr (by rw [he]; kernel_rfl), by rw [he]; kernel_rfl, by decide +kernel, by decide +kernel⟩
        have hstg : Stand _ (tl ++ vt) g := fun q hq => ⟨kp q.1 q.2 (fun hm => by
          obtain ⟨r, hr, er⟩ := List.mem_map.mp hm
          exact (hst q hq).2 r hr er) (hst q hq).1, (hst q hq).2⟩
        clear hA kp
        have gU := (hstg (L2 + 1 + 1 + 1 + 1, cellO (some (.ref fc))) (.tail _ (.tail _ (.tail _ (.tail _ (.tail _ (.tail _ (.tail _ (.tail _ (.tail _ (.tail _ (.head _)))))))))))).1
        have gK := (hstg (L2 + 1, cellO (some (.int num t2))) (.tail _ (.tail _ (.tail _ (.tail _ (.tail _ (.tail _ (.tail _ (.head _))))))))).1
        have gL := (hstg (L2 + 1 + 1 + 1 + 1 + 1, cellO (some (.ref 142))) (.tail _ (.tail _ (.tail _ (.tail _ (.tail _ (.tail _ (.tail _ (.tail _ (.tail _ (.tail _ (.tail _ (.head _))))))))))))).1
        have gN := (hstg (L2 + 1 + 1, cellO (some (.ref 383))) (.tail _ (.tail _ (.tail _ (.tail _ (.tail _ (.tail _ (.tail _ (.tail _ (.head _)))))))))).1
        have gB := (hstg (L2 + 1 + 1 + 1 + 1 + 1 + 1, cellO (some (.bytes tag.toArray t9))) (.tail _ (.tail _ (.tail _ (.tail _ (.tail _ (.tail _ (.tail _ (.tail _ (.tail _ (.tail _ (.tail _ (.tail _ (.head _)))))))))))))).1
        have gT := (hstg (L2 + 1 + 1 + 1 + 1 + 1 + 1 + 1, cellO (some (.int tag.length t11))) (.tail _ (.tail _ (.tail _ (.tail _ (.tail _ (.tail _ (.tail _ (.tail _ (.tail _ (.tail _ (.tail _ (.tail _ (.tail _ (.head _))))))))))))))).1
        have gcv : ∀ q ∈ [(fc, loc), (cc, occ)], g.get? q.1 = some q.2 := fun q hq => (hstg q (by simp only [List.mem_cons, List.not_mem_nil, or_false] at hq; rcases hq with rfl | rfl; exact .tail _ (.tail _ (.tail _ (.tail _ (.head _)))); exact .tail _ (.tail _ (.tail _ (.tail _ (.tail _ (.head _))))))).1
        have hi : interactive env' = false := by rw [he]; rfl
        clear hstg hst he
        refine x_getlist (cK := L2 + 1) (cN := L2 + 1 + 1) (vsv := fun u => [some (.bytes (pre ++ dt).toArray 0), some (.int pre.length 0), some (.int fin 0), some .none, some (.ref D), some (.int 0 0), u, none, none]) N' C' S' Tl lo' (fun u => (.tl (.tl (.tl (.tl .hd))))) (fun u => (.tl (.tl (.tl .hd)))) (fun u u' => (.tl (.tl (.tl (.tl (.tl (.tl .hd))))))) (fun u => (.tl (.tl (.tl (.tl (.tl (.tl .hd))))))) ceK gK ceN gN fun od l n h2 tk2 hod S2 => ?_
        have S2 : St g L3 h2 [Str.ofString "buffer", Str.ofString "pos", Str.ofString "end", Str.ofString "message", Str.ofString "field_dict", Str.ofString "current_depth", Str.ofString "value", Str.ofString "size", Str.ofString "new_pos"] [some (.bytes (pre ++ dt).toArray 0), some (.int (pre.length : Nat) 0), some (.int fin 0), some .none, some (.ref D), some (.int 0 0), some (.ref l), none, none] ((D, od) :: (l, listOf (its ++ []).toArray n) :: vt) := by rw [List.append_nil]; exact S2
        refine x_whileR rai.own (fun m h => ∃ dn td vals kn vt7 pre2 dt2 u1 u2, pieces = dn ++ td ∧ td ≠ [] ∧ m = td.length ∧ vals.map nt = dn.map (fun p => nt p.2) ∧ VTs vt7 ∧ (full = false → dn = [] ∧ pre2 = pre) ∧
          Dt full post (joinB tag (td.map (·.1))) dt2 ∧ pre2 ++ dt2 = pre ++ dt ∧ pre2.length + (joinB tag (td.map (·.1))).length = pre.length + (joinB tag (pieces.map (·.1))).length ∧
          St g L3 h [Str.ofString "buffer", Str.ofString "pos", Str.ofString "end", Str.ofString "message", Str.ofString "field_dict", Str.ofString "current_depth", Str.ofString "value", Str.ofString "size", Str.ofString "new_pos"] [some (.bytes (pre ++ dt).toArray 0), some (.int (pre2.length : Nat) 0), some (.int fin 0), some .none, some (.ref D), some (.int 0 0), some (.ref l), u1, u2] ((D, od) :: (l, listOf (its ++ vals).toArray kn) :: vt7)) (n := pieces.length) ⟨[], pieces, [], n, vt, pre, dt, none, none, rfl, hne, rfl, rfl, V, fun _ => ⟨rfl, rfl⟩, hd, rfl, rfl, S2⟩ ?_
        rintro m h3 tk3 ⟨dn, td, vals, kn, vt7, pre2, dt2, u1, u2, hp, htd, rfl, hv, V7, hdn, hd2, hb, hl, S3⟩
        refine ⟨_, Ts.int Ev.int, fun _ h4 tk4 s4 => ?_, fun hc => absurd hc (by decide)⟩
        cases td with
        | nil => exact absurd rfl htd
        | cons q r =>
          obtain ⟨⟨u, hou, hul, hP⟩, hq0⟩ := hpc q (by rw [hp]; simp)
          have hul2 := vB_small (n := u.length) (by omega)
          have e24 : u.length % 2 ^ 64 = u.length := Nat.mod_eq_of_lt (by omega)
          have okl : VOk2 (fun raw => ((raw % 2 ^ 64 : Nat) : Int)) (vB u.length) (.int u.length 0) := ⟨u.length, vB_ok _, by rw [hul2]; simp, by show Value.int (u.length : Int) 0 = Value.int ((u.length % 2 ^ 64 : Nat) : Int) 0; rw [e24]⟩
          have hql : q.1.length = (vB u.length).length + u.length := by rw [hou, List.length_append]
          obtain ⟨R, hR⟩ : ∃ R, R = (r.map (·.1)).flatMap (fun y => tag ++ y) := ⟨_, rfl⟩
          rw [List.map_cons, joinB_cons, ← hR] at hd2 hl
          rw [List.length_append] at hl
          have hcut1 : full = false → r = [] ∧ fin < pre2.length + q.1.length := by
            intro hf
            subst hf
            obtain ⟨h1, h2⟩ := hdn rfl
            obtain ⟨p1, hp1⟩ := hover (.inl rfl)
            have hr : r = [] := by rw [hp1, h1] at hp; simp at hp; exact hp.2
            subst hr
            have hR0 : R = [] := hR
            subst hR0
            rw [List.append_nil] at hd2
            have h3 := hd2.lt
            have h4 := hcutf rfl
            rw [← hb, List.length_append] at h4
            exact ⟨rfl, by omega⟩
          rw [hou, List.append_assoc] at hd2
          have S4 : St g L3 h4 _ _ (vt7 ++ [(D, od), (l, listOf (its ++ vals).toArray kn)]) := St.comm (a := [(D, od), (l, listOf (its ++ vals).toArray kn)]) (S3.grow s4)
          refine x_pair (h₀ := g) (gs := gs) (dr := dr) (os := os) N' C'.hand (c_fn (a := 142) (Ev.cellH N'.kind ceL (S4.keep gL) rfl) fun h5 tk5 s5 => sp_p ((Ev.loc N' S4 .hd).grow s5) fun v6 h6 tk6 n6 s6 => sp_p (((Ev.loc N' S4 (.tl .hd)).grow s5).grow s6) fun v7 h7 tk7 n7 s7 => sp_n ?_)
          obtain ⟨t6, rfl⟩ := nt_bytes n6
          obtain ⟨t7', rfl⟩ := nt_int n7
          have S7 := ((S4.grow s5).grow s6).grow s7
          refine ⟨fnAt_K C' S7 (by k_is), ?_⟩
          rw [← hb]
          rw [← hb] at S7 hz
          rcases hd2.split with ⟨d2, hdt, hd3⟩ | ⟨hff2, hcut⟩
          · refine ((es_142.up (by decide)) true pre2 d2 (vB u.length) dt2 (.int u.length 0) t6 t7' C' S7 V7 kx' (fun q hq => nomatch hq) okl hdt hz (fun _ T v8 t8 h8 tk8 vt8 n8 V8 S8 => ?_) (fun hf => nomatch hf)).out
            refine ⟨T, v8, _, h8, tk8, _, _, _, _, rfl, rfl, S8, .head _, (.tl (.tl (.tl (.tl (.tl (.tl (.tl .hd))))))), .tl .hd, fun h9 tk9 S9 => ?_⟩
            rw [n8] at S9
            have S9 : St g L3 h9 _ _ ((D, od) :: (l, listOf (its ++ vals).toArray kn) :: vt8) := (S9.drop).comm
            refine x_assign N' S9 (Ev.cast (u := .int (pre2.length + (vB u.length).length + u.length : Nat) 0) (Ev.add (Ev.loc N' S9 (.tl .hd)) (Ev.loc N' S9 (.tl (.tl (.tl (.tl (.tl (.tl (.tl .hd))))))))) (by push_cast; rfl)) (.tl (.tl (.tl (.tl (.tl (.tl (.tl (.tl .hd)))))))) fun h10 tk10 S10 => ?_
            refine x_if (Ts.gt (Ev.loc N' S10 (.tl (.tl (.tl (.tl (.tl (.tl (.tl (.tl .hd))))))))) (Ev.loc N' S10 (.tl (.tl .hd)))) (fun hc h11 tk11 s11 => ?_) fun hc h11 tk11 s11 => x_nil (Nx.go ?_)
            · have hlt := of_decide_eq_true hc
              refine x_raise (c := 37) N' C' (S10.grow s11) (by k_is) (by kernel_rfl) (.head _) Ev.cstr fun h12 h13 e13 tk13 s13 f13 => ?_
              exact rai.new e13 _ h12 h13 tk13 _ _ _ ((S10.grow s11).grow s13) ⟨[(D, od), (l, listOf (its ++ vals).toArray kn)], vt8, its ++ vals, rfl, V8, .inr (by omega), (fun hf => by
                have h1 := (hdn hf).1
                rw [h1] at hv
                rw [List.map_eq_nil_iff.mp hv, List.append_nil]), od, l, kn, rfl, hod⟩ (.inr (.inl rfl)) f13
            · have hge := of_decide_eq_false hc
              have hfull : full = true := by
                cases full with
                | true => rfl
                | false => have := (hcut1 rfl).2; omega
              have hd4 := hd3 hfull
              have hbuf : pre2 ++ dt2 = ((pre2 ++ vB u.length) ++ (u ++ (R ++ post))) := by rw [hdt, hd4]; simp only [List.append_assoc]
              have hA : pre2.length + (vB u.length).length = (pre2 ++ vB u.length).length := by simp
              have S14 : St g L3 h11 [Str.ofString "buffer", Str.ofString "pos", Str.ofString "end", Str.ofString "message", Str.ofString "field_dict", Str.ofString "current_depth", Str.ofString "value", Str.ofString "size", Str.ofString "new_pos"] [some (.bytes ((pre2 ++ vB u.length) ++ (u ++ (R ++ post))).toArray 0), some (.int ((pre2 ++ vB u.length).length : Nat) 0), some (.int fin 0), some .none, some (.ref D), some (.int 0 0), some (.ref l), some (.int u.length 0), some (.int ((pre2 ++ vB u.length).length + u.length : Nat) 0)] ((D, od) :: (l, listOf (its ++ vals).toArray kn) :: vt8) := by rw [← hbuf, ← hA]; exact S10.grow s11
              have hz5 := hz
              rw [hbuf] at hz5
              have hvl : vals.length = dn.length := by have := congrArg List.length hv; simpa using this
              have hpl : pieces.length = dn.length + (r.length + 1) := by rw [hp]; simp
              refine x_appendW (u := nt q.2) S14 (Ev.loc N' S14 (.tl (.tl (.tl (.tl (.tl (.tl .hd))))))) (fun v' => .tl .hd) (by simp only [List.size_toArray, List.length_append]; omega) (fun h14 tk14 S14 => c_fn (a := fc) (Ev.cellH N'.kind ceU (S14.keep gU) rfl) fun h15 tk15 s15 => sp_p (Ev.sliceB (xs := (pre2 ++ vB u.length) ++ (u ++ (R ++ post))) (ys := u) (a := some ((pre2 ++ vB u.length).length : Int)) (b := some (((pre2 ++ vB u.length).length + u.length : Nat) : Int)) (Ev.loc N' (S14.grow s15) .hd) (EvO.some (Ev.loc N' (S14.grow s15) (.tl .hd))) (EvO.some (Ev.loc N' (S14.grow s15) (.tl (.tl (.tl (.tl (.tl (.tl (.tl (.tl .hd)))))))))) hz5 (slice_at.trans (by rw [List.take_left]))) fun v16 h16 tk16 n16 s16 => sp_n ?_) (fun v17 h17 tk17 n17 S17 => ?_) hi
              · obtain ⟨t16, rfl⟩ := nt_bytes n16
                have S16 := (S14.grow s15).grow s16
                obtain ⟨s0, hs0, hval⟩ := hP
                refine ⟨cvc.fn _ (fun q hq => S16.keep (gcv q hq)), (cvc.run s0 u t16 hs0 (C'.le (by decide)) S16 (fun q hq => S16.keep (gcv q hq)) fun t17 h17 tk17 S17 => ?_).out⟩
                exact ⟨h17, tk17, rfl, S17, hval.symm⟩
              have el : (its ++ vals).toArray.push v17 = (its ++ (vals ++ [v17])).toArray := by simp
              rw [el] at S17
              have hv2 : (vals ++ [v17]).map nt = (dn ++ [q]).map (fun p => nt p.2) := by rw [List.map_append, hv, List.map_append]; simp [n17]
              have ea : ((pre2 ++ vB u.length) ++ (u ++ (R ++ post))) = (((pre2 ++ vB u.length) ++ u) ++ (R ++ post)) := by rw [List.append_assoc (pre2 ++ vB u.length) u]
              rw [ea] at S17 hz5
              have hA2 : (pre2 ++ vB u.length).length + u.length = ((pre2 ++ vB u.length) ++ u).length := by rw [List.length_append (as := (pre2 ++ vB u.length))]
              rw [hA2] at S17
              refine x_assign N' S17 (Ev.cast (u := .int (((pre2 ++ vB u.length) ++ u).length + tag.length : Nat) 0) (Ev.add (Ev.loc N' S17 (.tl (.tl (.tl (.tl (.tl (.tl (.tl (.tl .hd))))))))) (Ev.cellH N'.kind ceT (S17.keep gT) rfl)) (by push_cast; rfl)) (.tl .hd) fun h18 tk18 S18 => ?_
              refine x_if (TsB.ts (TsB.or (Ts.neB (xs := (R ++ post).take tag.length) (ys := tag) (Ev.sliceB (xs := (((pre2 ++ vB u.length) ++ u) ++ (R ++ post))) (a := some (((pre2 ++ vB u.length) ++ u).length : Int)) (b := some ((((pre2 ++ vB u.length) ++ u).length + tag.length : Nat) : Int)) (Ev.loc N' S18 .hd) (EvO.some (Ev.loc N' S18 (.tl (.tl (.tl (.tl (.tl (.tl (.tl (.tl .hd)))))))))) (EvO.some (Ev.loc N' S18 (.tl .hd))) hz5 slice_at) (Ev.cellH N'.kind ceB (S18.keep gB) rfl)) fun _ => TsB.or (Ts.eq (Ev.loc N' S18 (.tl (.tl (.tl (.tl (.tl (.tl (.tl (.tl .hd))))))))) (Ev.loc N' S18 (.tl (.tl .hd)))) fun _ => TsB.orN)) (fun hc h19 tk19 s19 => ?_) fun hc h19 tk19 s19 => x_nil (Nx.go (x_nil ?_))
              · have S19 := S18.grow s19
                have hr : r = [] := by
                  cases r with
                  | nil => rfl
                  | cons q2 r2 =>
                    exfalso
                    have e1 : (R ++ post).take tag.length = tag := by rw [hR, List.map_cons, List.flatMap_cons, List.append_assoc, List.append_assoc, List.take_left]
                    rw [e1] at hc
                    have h1 : ((((pre2 ++ vB u.length) ++ u).length : Nat) : Int) = fin := by simpa using hc
                    have h2 := (hpc q2 (by rw [hp]; simp)).2
                    have h3 : q2.1.length ≤ R.length := by rw [hR, List.map_cons, List.flatMap_cons]; simp only [List.length_append]; omega
                    rw [← hA2, ← hA] at h1
                    obtain ⟨p1, hp1⟩ := hover (.inr (by omega))
                    rw [hp1] at hpl
                    simp at hpl
                    omega
                subst hr
                have hR0 : R = [] := hR
                subst hR0
                have hp' : pieces = dn ++ [q] := by rw [hp]
                have hnp : ((pre2 ++ vB u.length) ++ u).length = pre.length + (joinB tag (pieces.map (·.1))).length := by rw [← hl, ← hA2, ← hA, hql]; simp only [List.length_nil]; omega
                rw [hnp] at S19
                refine x_ret (Ev.loc N' S19 (.tl (.tl (.tl (.tl (.tl (.tl (.tl (.tl .hd))))))))) fun v20 h20 tk20 n20 s20 => ?_
                obtain ⟨t20, rfl⟩ := nt_int n20
                exact ret _ _ _ _ _ _ (S19.grow s20) ⟨hfull, by rw [← hnp, ← hA2, ← hA]; omega, vals ++ [v17], t20, [(D, od), (l, listOf (its ++ (vals ++ [v17])).toArray (kn + 1))], vt8, rfl, by rw [hv2, hp'], V8, ⟨od, l, kn + 1, rfl, hod⟩, rfl⟩
              · have S19 := S18.grow s19
                cases r with
                | nil =>
                  exfalso
                  have hR0 : R = [] := hR
                  subst hR0
                  rw [List.nil_append] at hc
                  obtain ⟨h1, h2⟩ := (Bool.or_eq_false_iff).mp hc
                  have h2 : ¬ ((((pre2 ++ vB u.length) ++ u).length : Nat) : Int) = fin := by simpa using h2
                  have h1 : post.take tag.length = tag := by simpa using h1
                  rw [← hA2, ← hA] at h2
                  rcases hsep hfull with h3 | h3
                  · simp only [List.length_nil] at hl
                    omega
                  · exact h3 h1
                | cons q2 r2 =>
                  have hR2 : R = tag ++ joinB tag ((q2 :: r2).map (·.1)) := by rw [hR, List.map_cons, List.flatMap_cons, joinB_cons, List.append_assoc]
                  have hbuf2 : (((pre2 ++ vB u.length) ++ u) ++ (R ++ post)) = pre2 ++ dt2 := by rw [hbuf, ea]
                  rw [hbuf2] at S19
                  refine LK.go (m := (q2 :: r2).length) (by simp) ⟨dn ++ [q], q2 :: r2, vals ++ [v17], kn + 1, vt8, ((pre2 ++ vB u.length) ++ u) ++ tag, joinB tag ((q2 :: r2).map (·.1)) ++ post, some (.int u.length 0), some (.int (((pre2 ++ vB u.length) ++ u).length : Nat) 0), by rw [hp]; simp, by simp, rfl, hv2, V8, (fun hf => by rw [hfull] at hf; cases hf), (by rw [hfull]; rfl), ?_, ?_, ?_⟩
                  · rw [← hbuf2, hR2]; simp only [List.append_assoc]
                  · rw [← hl, hR2, hql]; simp only [List.length_append]; omega
                  · rw [List.length_append (bs := tag)]
                    exact S19
          · refine ((es_142.up (by decide)) false pre2 [] (vB u.length) dt2 (.int u.length 0) t6 t7' C' S7 V7 kx' (fun q hq => nomatch hq) okl hcut hz (fun hf => nomatch hf) (fun _ e g₂ m h8 tk8 vt8 F8 V8 R8 => ?_)).out
            have hv0 : vals = [] := by rw [(hdn hff2).1] at hv; exact List.map_eq_nil_iff.mp hv
            subst hv0
            exact rai.on e g₂ m h8 tk8 ([(D, od), (l, listOf (its ++ []).toArray kn)] ++ vt8) F8.comm ⟨[(D, od), (l, listOf (its ++ []).toArray kn)], vt8, its ++ [], rfl, V8, .inl hff2, fun _ => List.append_nil _, od, l, kn, rfl, hod⟩ (R8.sub sub_swap2)
      · rintro v h' tk' nw ⟨h2, h3, vals, t, tl2, vt2, rfl, hv, V2, ht, rfl⟩ S2
        exact kO h2 h3 vals t h' tk' vt2 tl2 hv V2 ht (by rw [List.append_assoc] at S2; exact S2)
      · rintro e g₂ m h' tk' nw F2 ⟨tl2, vt2, its2, rfl, V2, hc, hi, ht⟩ R
        rw [List.append_assoc] at R
        exact kE hc e g₂ m h' tk' vt2 tl2 its2 F2.assoc V2 hi ht R
  · rintro v h' tk' nw ⟨f, rfl, hf, hs, hg⟩ S'
    exact k f nw h' tk' hf hs ((GT.sub fun q hq => by
      simp only [List.mem_append, List.mem_cons, List.not_mem_nil, or_false] at hq ⊢
      exact hq.symm).trans hg) S' 
end
end Mine
end
section
open PySem PySem.Spec PySem.Calls PySem.W PyProof.Rows
open LCg (NsObj ns_obj fr_but)
set_option maxRecDepth 100000
set_option maxHeartbeats 4000000
set_option linter.unusedVariables false
namespace Mine

section
variable {prog : Program} {w : World} {loose : List Str} {mean : ExcName → Option Value} {mg mb : Str → Option Value} {A A₀ : Around} {env cenv : Env} {outer : List Env} {base h₀ h : Heap} {L D : Addr} {lv : Nat} {ns gl : List Str} {vs vs1 vs2 : List (Option Value)} {news nw foot rest dl tl Kp cl : List (Addr × Obj)} {x y n1 n2 : Str} {v u : Value} {p p1 p2 p3 p4 p' np cpos : Pos} {kk : Nat}
variable {gs : Array GenState} {dr : Drawn} {tk : Nat} {os : OsState} {Q E : Value → Shared → Prop} {QF : Flow → Shared → Prop} {e e1 e2 i o a b : Expr} {pos : Pos} {elts : List Expr} {rst : List Stmt} {s : Shared}


theorem VOk2.num {conv : Nat → Int} : ∀ o v, VOk2 conv o v → Num v := fun o v ⟨_, _, _, h⟩ => by obtain ⟨t, rfl⟩ := nt_int h; exact .inl ⟨_, _, rfl⟩
theorem MOk.numI {bt : Nat} {cv : Nat → Int} : ∀ o v, MOk bt (fun n => .int (cv n) 0) o v → Num v := fun o v ⟨_, _, _, h⟩ => by obtain ⟨t, rfl⟩ := nt_int h; exact .inl ⟨_, _, rfl⟩
theorem MOk.numB {bt : Nat} {cv : Nat → Bool} : ∀ o v, MOk bt (fun n => .bool (cv n)) o v → Num v := fun o v ⟨_, _, _, h⟩ => .inr ⟨_, nt_bool h⟩
theorem MC.up {lv lv' : Nat} {f : Addr} {cv : Nat → Value} (q : MC prog w lv f cv) (hl : lv ≤ lv') : MC prog w lv' f cv := by
  intro loose mean mg mb A A₀ env outer base h₀ h L ns vs rest gs dr tk os Q E n t hn C
  exact q n t hn (C.le hl)
theorem fa6_142 : FA prog w 6 142 [] := fun C S _ => fnAt_K C S (by k_is)
theorem fa6_156 : FA prog w 6 156 [] := fun C S _ => fnAt_K C S (by k_is)

/-- kind 3 -/
theorem xd_3 {md : Nat} (hmd : md ≤ 2) : XD prog w md 208 [(165, tabObj #[])] 0 (VOk2 (sgn 64)) := by
  refine ⟨?_⟩
  intro loose mean mg mb A A₀ env outer base h₀ h L ns vs rest gs dr tk os Q E num clr t1 t2 hnum C S k
  have S : St h₀ L h ns vs ([(165, tabObj #[]), (102, tabObj #[])] ++ rest) := S
  refine call_g (cl := []) (foot := [(165, tabObj #[]), (102, tabObj #[])]) (rest := rest) (args := ⟨[.int num t1, .bool (decide (0 < md)), .bool (md == 2), .int num t2, .ref 383, .bool clr], []⟩) (binds := [(Str.ofString "field_number", .int num t1), (Str.ofString "is_repeated", .bool (decide (0 < md))), (Str.ofString "is_packed", .bool (md == 2)), (Str.ofString "key", .int num t2), (Str.ofString "new_default", .ref 383), (Str.ofString "clear_if_default", .bool clr)]) (Rel := fun v nw => ∃ f, v = .ref f ∧ (∀ h : Heap, (∀ q ∈ nw, h.get? q.1 = some q.2) → FnAt f h) ∧ FD prog w md f nw num clr (vB (8 * num + 0)) (VOk2 (sgn 64)) ∧ GT [(165, tabObj #[]), (102, tabObj #[])] nw) (ns' := [Str.ofString "field_number", Str.ofString "is_repeated", Str.ofString "is_packed", Str.ofString "key", Str.ofString "new_default", Str.ofString "clear_if_default"]) (gl' := [Str.ofString "_SimpleDecoder", Str.ofString "WIRETYPE_VARINT", Str.ofString "_DecodeSignedVarint"]) C S (K_get C S (by k_is)) rfl (K_code C S (by k_is)) (BindsTo.of_defaults rfl (K_get C S (f := 201) (by k_is)) rfl rfl rfl) (fnEnv_ofG rfl (by decide +kernel) (by decide +kernel) (by decide +kernel) (by decide +kernel)) (vs2 := fun _ => [some (.int num 0), some (.bool (decide (0 < md))), some (.bool (md == 2)), some (.int num 0), some (.ref 383), some (.bool clr)]) (nw2 := fun L' => [(165, tabObj #[]), (102, tabObj #[])]) (fun L' => (.loc .hd (.loc (.tl .hd) (.loc (.tl (.tl .hd)) (.loc (.tl (.tl (.tl .hd))) (.loc (.tl (.tl (.tl (.tl .hd)))) (.loc (.tl (.tl (.tl (.tl (.tl .hd))))) .nil))))))) ?_ ?_
  · intro g L2 h₁ tk₁ env' A' he hA C' N' S' kp Q' E' ret
    clear hA kp he
    refine x_retW (c_fnW (c_fn (a := 170) (Ev.glob N' C' S' (by k_is) (.head _) rfl) fun h2 tk2 s2 => sp_p (Ev.glob N' C' (S'.grow s2) (by k_is) (.tail _ (.head _)) rfl) fun v3 h3 tk3 n3 s3 => sp_p (Ev.glob N' C' ((S'.grow s2).grow s3) (by k_is) (.tail _ (.tail _ (.head _))) rfl) fun v4 h4 tk4 n4 s4 => sp_n ?_))
    obtain ⟨t3, rfl⟩ := nt_int n3
    obtain rfl := nt_ref n4
    have S9 : St g L2 _ _ _ ([(165, tabObj #[])] ++ [(102, tabObj #[])]) := (((S'.grow s2).grow s3).grow s4)
    refine ⟨fnAt_K C' S9 (by k_is), (simple_mk (wt := 0) (cl := []) (Ok := VOk2 (sgn 64)) hmd (by decide) C' S9 (es_149.up (by decide)) (fa_149 (prog := prog)) VOk2.num fun f sl h10 tk10 sp hg S10 => ?_).out⟩
    refine ⟨f, rfl, sp.fn _ (fun q hq => S10.get (List.mem_append_left _ hq)), ?_⟩
    refine sp_p (Ev.loc N' S10 .hd) fun v20 h20 tk20 n20 s20 => sp_p (Ev.loc N' (S10.grow s20) (.tl .hd)) fun v21 h21 tk21 n21 s21 => sp_p (Ev.loc N' ((S10.grow s20).grow s21) (.tl (.tl .hd))) fun v22 h22 tk22 n22 s22 => sp_p (Ev.loc N' (((S10.grow s20).grow s21).grow s22) (.tl (.tl (.tl .hd)))) fun v23 h23 tk23 n23 s23 => sp_p (Ev.loc N' ((((S10.grow s20).grow s21).grow s22).grow s23) (.tl (.tl (.tl (.tl .hd))))) fun v24 h24 tk24 n24 s24 => sp_p (Ev.loc N' (((((S10.grow s20).grow s21).grow s22).grow s23).grow s24) (.tl (.tl (.tl (.tl (.tl .hd)))))) fun v25 h25 tk25 n25 s25 => sp_n ?_
    obtain ⟨t20, rfl⟩ := nt_int n20
    obtain rfl := nt_bool n21
    obtain rfl := nt_bool n22
    obtain ⟨t23, rfl⟩ := nt_int n23
    obtain rfl := nt_ref n24
    obtain rfl := nt_bool n25
    have S26 := ((((((S10.grow s20).grow s21).grow s22).grow s23).grow s24).grow s25)
    refine ⟨sp.fn _ (fun q hq => S26.get (List.mem_append_left _ hq)), (sp.run (vt := []) (Kp := []) num clr t20 t23 hnum (C'.le (by decide)) S26 fun d dl h27 tk27 hf hfd hg2 S27 => ?_).out⟩
    rw [List.append_nil] at S27
    refine ret _ _ _ _ _ _ S27 ⟨d, rfl, hf, hfd, ?_⟩
    · intro P ps hm
      rcases List.mem_append.mp (show (P, tabObj ps) ∈ [(165, tabObj #[])] ++ [(102, tabObj #[])] from hm) with hm | hm
      · obtain ⟨ps', h'⟩ := hg P ps hm
        exact hg2 P ps' (List.mem_append_left _ h')
      · exact hg2 P ps (List.mem_append_right _ hm)
  · rintro v h' tk' nw ⟨f, rfl, hf, hs, hg⟩ S'
    exact k f nw h' tk' hf hs hg S' 

/-- kind 4 -/
theorem xd_4 {md : Nat} (hmd : md ≤ 2) : XD prog w md 224 [(165, tabObj #[])] 0 (VOk2 (fun raw => ((raw % 2 ^ 64 : Nat) : Int))) := by
  refine ⟨?_⟩
  intro loose mean mg mb A A₀ env outer base h₀ h L ns vs rest gs dr tk os Q E num clr t1 t2 hnum C S k
  have S : St h₀ L h ns vs ([(165, tabObj #[]), (102, tabObj #[])] ++ rest) := S
  refine call_g (cl := []) (foot := [(165, tabObj #[]), (102, tabObj #[])]) (rest := rest) (args := ⟨[.int num t1, .bool (decide (0 < md)), .bool (md == 2), .int num t2, .ref 383, .bool clr], []⟩) (binds := [(Str.ofString "field_number", .int num t1), (Str.ofString "is_repeated", .bool (decide (0 < md))), (Str.ofString "is_packed", .bool (md == 2)), (Str.ofString "key", .int num t2), (Str.ofString "new_default", .ref 383), (Str.ofString "clear_if_default", .bool clr)]) (Rel := fun v nw => ∃ f, v = .ref f ∧ (∀ h : Heap, (∀ q ∈ nw, h.get? q.1 = some q.2) → FnAt f h) ∧ FD prog w md f nw num clr (vB (8 * num + 0)) (VOk2 (fun raw => ((raw % 2 ^ 64 : Nat) : Int))) ∧ GT [(165, tabObj #[]), (102, tabObj #[])] nw) (ns' := [Str.ofString "field_number", Str.ofString "is_repeated", Str.ofString "is_packed", Str.ofString "key", Str.ofString "new_default", Str.ofString "clear_if_default"]) (gl' := [Str.ofString "_SimpleDecoder", Str.ofString "WIRETYPE_VARINT", Str.ofString "_DecodeVarint"]) C S (K_get C S (by k_is)) rfl (K_code C S (by k_is)) (BindsTo.of_defaults rfl (K_get C S (f := 217) (by k_is)) rfl rfl rfl) (fnEnv_ofG rfl (by decide +kernel) (by decide +kernel) (by decide +kernel) (by decide +kernel)) (vs2 := fun _ => [some (.int num 0), some (.bool (decide (0 < md))), some (.bool (md == 2)), some (.int num 0), some (.ref 383), some (.bool clr)]) (nw2 := fun L' => [(165, tabObj #[]), (102, tabObj #[])]) (fun L' => (.loc .hd (.loc (.tl .hd) (.loc (.tl (.tl .hd)) (.loc (.tl (.tl (.tl .hd))) (.loc (.tl (.tl (.tl (.tl .hd)))) (.loc (.tl (.tl (.tl (.tl (.tl .hd))))) .nil))))))) ?_ ?_
  · intro g L2 h₁ tk₁ env' A' he hA C' N' S' kp Q' E' ret
    clear hA kp he
    refine x_retW (c_fnW (c_fn (a := 170) (Ev.glob N' C' S' (by k_is) (.head _) rfl) fun h2 tk2 s2 => sp_p (Ev.glob N' C' (S'.grow s2) (by k_is) (.tail _ (.head _)) rfl) fun v3 h3 tk3 n3 s3 => sp_p (Ev.glob N' C' ((S'.grow s2).grow s3) (by k_is) (.tail _ (.tail _ (.head _))) rfl) fun v4 h4 tk4 n4 s4 => sp_n ?_))
    obtain ⟨t3, rfl⟩ := nt_int n3
    obtain rfl := nt_ref n4
    have S9 : St g L2 _ _ _ ([(165, tabObj #[])] ++ [(102, tabObj #[])]) := (((S'.grow s2).grow s3).grow s4)
    refine ⟨fnAt_K C' S9 (by k_is), (simple_mk (wt := 0) (cl := []) (Ok := VOk2 (fun raw => ((raw % 2 ^ 64 : Nat) : Int))) hmd (by decide) C' S9 (es_142.up (by decide)) (fa_142 (prog := prog)) VOk2.num fun f sl h10 tk10 sp hg S10 => ?_).out⟩
    refine ⟨f, rfl, sp.fn _ (fun q hq => S10.get (List.mem_append_left _ hq)), ?_⟩
    refine sp_p (Ev.loc N' S10 .hd) fun v20 h20 tk20 n20 s20 => sp_p (Ev.loc N' (S10.grow s20) (.tl .hd)) fun v21 h21 tk21 n21 s21 => sp_p (Ev.loc N' ((S10.grow s20).grow s21) (.tl (.tl .hd))) fun v22 h22 tk22 n22 s22 => sp_p (Ev.loc N' (((S10.grow s20).grow s21).grow s22) (.tl (.tl (.tl .hd)))) fun v23 h23 tk23 n23 s23 => sp_p (Ev.loc N' ((((S10.grow s20).grow s21).grow s22).grow s23) (.tl (.tl (.tl (.tl .hd))))) fun v24 h24 tk24 n24 s24 => sp_p (Ev.loc N' (((((S10.grow s20).grow s21).grow s22).grow s23).grow s24) (.tl (.tl (.tl (.tl (.tl .hd)))))) fun v25 h25 tk25 n25 s25 => sp_n ?_
    obtain ⟨t20, rfl⟩ := nt_int n20
    obtain rfl := nt_bool n21
    obtain rfl := nt_bool n22
    obtain ⟨t23, rfl⟩ := nt_int n23
    obtain rfl := nt_ref n24
    obtain rfl := nt_bool n25
    have S26 := ((((((S10.grow s20).grow s21).grow s22).grow s23).grow s24).grow s25)
    refine ⟨sp.fn _ (fun q hq => S26.get (List.mem_append_left _ hq)), (sp.run (vt := []) (Kp := []) num clr t20 t23 hnum (C'.le (by decide)) S26 fun d dl h27 tk27 hf hfd hg2 S27 => ?_).out⟩
    rw [List.append_nil] at S27
    refine ret _ _ _ _ _ _ S27 ⟨d, rfl, hf, hfd, ?_⟩
    · intro P ps hm
      rcases List.mem_append.mp (show (P, tabObj ps) ∈ [(165, tabObj #[])] ++ [(102, tabObj #[])] from hm) with hm | hm
      · obtain ⟨ps', h'⟩ := hg P ps hm
        exact hg2 P ps' (List.mem_append_left _ h')
      · exact hg2 P ps (List.mem_append_right _ hm)
  · rintro v h' tk' nw ⟨f, rfl, hf, hs, hg⟩ S'
    exact k f nw h' tk' hf hs hg S' 

/-- kind 5 -/
theorem xd_5 {md : Nat} (hmd : md ≤ 2) : XD prog w md 200 [(165, tabObj #[])] 0 (VOk2 (sgn 32)) := by
  refine ⟨?_⟩
  intro loose mean mg mb A A₀ env outer base h₀ h L ns vs rest gs dr tk os Q E num clr t1 t2 hnum C S k
  have S : St h₀ L h ns vs ([(165, tabObj #[]), (102, tabObj #[])] ++ rest) := S
  refine call_g (cl := []) (foot := [(165, tabObj #[]), (102, tabObj #[])]) (rest := rest) (args := ⟨[.int num t1, .bool (decide (0 < md)), .bool (md == 2), .int num t2, .ref 383, .bool clr], []⟩) (binds := [(Str.ofString "field_number", .int num t1), (Str.ofString "is_repeated", .bool (decide (0 < md))), (Str.ofString "is_packed", .bool (md == 2)), (Str.ofString "key", .int num t2), (Str.ofString "new_default", .ref 383), (Str.ofString "clear_if_default", .bool clr)]) (Rel := fun v nw => ∃ f, v = .ref f ∧ (∀ h : Heap, (∀ q ∈ nw, h.get? q.1 = some q.2) → FnAt f h) ∧ FD prog w md f nw num clr (vB (8 * num + 0)) (VOk2 (sgn 32)) ∧ GT [(165, tabObj #[]), (102, tabObj #[])] nw) (ns' := [Str.ofString "field_number", Str.ofString "is_repeated", Str.ofString "is_packed", Str.ofString "key", Str.ofString "new_default", Str.ofString "clear_if_default"]) (gl' := [Str.ofString "_SimpleDecoder", Str.ofString "WIRETYPE_VARINT", Str.ofString "_DecodeSignedVarint32"]) C S (K_get C S (by k_is)) rfl (K_code C S (by k_is)) (BindsTo.of_defaults rfl (K_get C S (f := 193) (by k_is)) rfl rfl rfl) (fnEnv_ofG rfl (by decide +kernel) (by decide +kernel) (by decide +kernel) (by decide +kernel)) (vs2 := fun _ => [some (.int num 0), some (.bool (decide (0 < md))), some (.bool (md == 2)), some (.int num 0), some (.ref 383), some (.bool clr)]) (nw2 := fun L' => [(165, tabObj #[]), (102, tabObj #[])]) (fun L' => (.loc .hd (.loc (.tl .hd) (.loc (.tl (.tl .hd)) (.loc (.tl (.tl (.tl .hd))) (.loc (.tl (.tl (.tl (.tl .hd)))) (.loc (.tl (.tl (.tl (.tl (.tl .hd))))) .nil))))))) ?_ ?_
  · intro g L2 h₁ tk₁ env' A' he hA C' N' S' kp Q' E' ret
    clear hA kp he
    refine x_retW (c_fnW (c_fn (a := 170) (Ev.glob N' C' S' (by k_is) (.head _) rfl) fun h2 tk2 s2 => sp_p (Ev.glob N' C' (S'.grow s2) (by k_is) (.tail _ (.head _)) rfl) fun v3 h3 tk3 n3 s3 => sp_p (Ev.glob N' C' ((S'.grow s2).grow s3) (by k_is) (.tail _ (.tail _ (.head _))) rfl) fun v4 h4 tk4 n4 s4 => sp_n ?_))
    obtain ⟨t3, rfl⟩ := nt_int n3
    obtain rfl := nt_ref n4
    have S9 : St g L2 _ _ _ ([(165, tabObj #[])] ++ [(102, tabObj #[])]) := (((S'.grow s2).grow s3).grow s4)
    refine ⟨fnAt_K C' S9 (by k_is), (simple_mk (wt := 0) (cl := []) (Ok := VOk2 (sgn 32)) hmd (by decide) C' S9 (es_163.up (by decide)) (fa_163 (prog := prog)) VOk2.num fun f sl h10 tk10 sp hg S10 => ?_).out⟩
    refine ⟨f, rfl, sp.fn _ (fun q hq => S10.get (List.mem_append_left _ hq)), ?_⟩
    refine sp_p (Ev.loc N' S10 .hd) fun v20 h20 tk20 n20 s20 => sp_p (Ev.loc N' (S10.grow s20) (.tl .hd)) fun v21 h21 tk21 n21 s21 => sp_p (Ev.loc N' ((S10.grow s20).grow s21) (.tl (.tl .hd))) fun v22 h22 tk22 n22 s22 => sp_p (Ev.loc N' (((S10.grow s20).grow s21).grow s22) (.tl (.tl (.tl .hd)))) fun v23 h23 tk23 n23 s23 => sp_p (Ev.loc N' ((((S10.grow s20).grow s21).grow s22).grow s23) (.tl (.tl (.tl (.tl .hd))))) fun v24 h24 tk24 n24 s24 => sp_p (Ev.loc N' (((((S10.grow s20).grow s21).grow s22).grow s23).grow s24) (.tl (.tl (.tl (.tl (.tl .hd)))))) fun v25 h25 tk25 n25 s25 => sp_n ?_
    obtain ⟨t20, rfl⟩ := nt_int n20
    obtain rfl := nt_bool n21
    obtain rfl := nt_bool n22
    obtain ⟨t23, rfl⟩ := nt_int n23
    obtain rfl := nt_ref n24
    obtain rfl := nt_bool n25
    have S26 := ((((((S10.grow s20).grow s21).grow s22).grow s23).grow s24).grow s25)
    refine ⟨sp.fn _ (fun q hq => S26.get (List.mem_append_left _ hq)), (sp.run (vt := []) (Kp := []) num clr t20 t23 hnum (C'.le (by decide)) S26 fun d dl h27 tk27 hf hfd hg2 S27 => ?_).out⟩
    rw [List.append_nil] at S27
    refine ret _ _ _ _ _ _ S27 ⟨d, rfl, hf, hfd, ?_⟩
    · intro P ps hm
      rcases List.mem_append.mp (show (P, tabObj ps) ∈ [(165, tabObj #[])] ++ [(102, tabObj #[])] from hm) with hm | hm
      · obtain ⟨ps', h'⟩ := hg P ps hm
        exact hg2 P ps' (List.mem_append_left _ h')
      · exact hg2 P ps (List.mem_append_right _ hm)
  · rintro v h' tk' nw ⟨f, rfl, hf, hs, hg⟩ S'
    exact k f nw h' tk' hf hs hg S' 

/-- kind 13 -/
theorem xd_13 {md : Nat} (hmd : md ≤ 2) : XD prog w md 216 [(165, tabObj #[])] 0 (VOk2 (fun raw => ((raw % 2 ^ 32 : Nat) : Int))) := by
  refine ⟨?_⟩
  intro loose mean mg mb A A₀ env outer base h₀ h L ns vs rest gs dr tk os Q E num clr t1 t2 hnum C S k
  have S : St h₀ L h ns vs ([(165, tabObj #[]), (102, tabObj #[])] ++ rest) := S
  refine call_g (cl := []) (foot := [(165, tabObj #[]), (102, tabObj #[])]) (rest := rest) (args := ⟨[.int num t1, .bool (decide (0 < md)), .bool (md == 2), .int num t2, .ref 383, .bool clr], []⟩) (binds := [(Str.ofString "field_number", .int num t1), (Str.ofString "is_repeated", .bool (decide (0 < md))), (Str.ofString "is_packed", .bool (md == 2)), (Str.ofString "key", .int num t2), (Str.ofString "new_default", .ref 383), (Str.ofString "clear_if_default", .bool clr)]) (Rel := fun v nw => ∃ f, v = .ref f ∧ (∀ h : Heap, (∀ q ∈ nw, h.get? q.1 = some q.2) → FnAt f h) ∧ FD prog w md f nw num clr (vB (8 * num + 0)) (VOk2 (fun raw => ((raw % 2 ^ 32 : Nat) : Int))) ∧ GT [(165, tabObj #[]), (102, tabObj #[])] nw) (ns' := [Str.ofString "field_number", Str.ofString "is_repeated", Str.ofString "is_packed", Str.ofString "key", Str.ofString "new_default", Str.ofString "clear_if_default"]) (gl' := [Str.ofString "_SimpleDecoder", Str.ofString "WIRETYPE_VARINT", Str.ofString "_DecodeVarint32"]) C S (K_get C S (by k_is)) rfl (K_code C S (by k_is)) (BindsTo.of_defaults rfl (K_get C S (f := 209) (by k_is)) rfl rfl rfl) (fnEnv_ofG rfl (by decide +kernel) (by decide +kernel) (by decide +kernel) (by decide +kernel)) (vs2 := fun _ => [some (.int num 0), some (.bool (decide (0 < md))), some (.bool (md == 2)), some (.int num 0), some (.ref 383), some (.bool clr)]) (nw2 := fun L' => [(165, tabObj #[]), (102, tabObj #[])]) (fun L' => (.loc .hd (.loc (.tl .hd) (.loc (.tl (.tl .hd)) (.loc (.tl (.tl (.tl .hd))) (.loc (.tl (.tl (.tl (.tl .hd)))) (.loc (.tl (.tl (.tl (.tl (.tl .hd))))) .nil))))))) ?_ ?_
  · intro g L2 h₁ tk₁ env' A' he hA C' N' S' kp Q' E' ret
    clear hA kp he
    refine x_retW (c_fnW (c_fn (a := 170) (Ev.glob N' C' S' (by k_is) (.head _) rfl) fun h2 tk2 s2 => sp_p (Ev.glob N' C' (S'.grow s2) (by k_is) (.tail _ (.head _)) rfl) fun v3 h3 tk3 n3 s3 => sp_p (Ev.glob N' C' ((S'.grow s2).grow s3) (by k_is) (.tail _ (.tail _ (.head _))) rfl) fun v4 h4 tk4 n4 s4 => sp_n ?_))
    obtain ⟨t3, rfl⟩ := nt_int n3
    obtain rfl := nt_ref n4
    have S9 : St g L2 _ _ _ ([(165, tabObj #[])] ++ [(102, tabObj #[])]) := (((S'.grow s2).grow s3).grow s4)
    refine ⟨fnAt_K C' S9 (by k_is), (simple_mk (wt := 0) (cl := []) (Ok := VOk2 (fun raw => ((raw % 2 ^ 32 : Nat) : Int))) hmd (by decide) C' S9 (es_156.up (by decide)) (fa_156 (prog := prog)) VOk2.num fun f sl h10 tk10 sp hg S10 => ?_).out⟩
    refine ⟨f, rfl, sp.fn _ (fun q hq => S10.get (List.mem_append_left _ hq)), ?_⟩
    refine sp_p (Ev.loc N' S10 .hd) fun v20 h20 tk20 n20 s20 => sp_p (Ev.loc N' (S10.grow s20) (.tl .hd)) fun v21 h21 tk21 n21 s21 => sp_p (Ev.loc N' ((S10.grow s20).grow s21) (.tl (.tl .hd))) fun v22 h22 tk22 n22 s22 => sp_p (Ev.loc N' (((S10.grow s20).grow s21).grow s22) (.tl (.tl (.tl .hd)))) fun v23 h23 tk23 n23 s23 => sp_p (Ev.loc N' ((((S10.grow s20).grow s21).grow s22).grow s23) (.tl (.tl (.tl (.tl .hd))))) fun v24 h24 tk24 n24 s24 => sp_p (Ev.loc N' (((((S10.grow s20).grow s21).grow s22).grow s23).grow s24) (.tl (.tl (.tl (.tl (.tl .hd)))))) fun v25 h25 tk25 n25 s25 => sp_n ?_
    obtain ⟨t20, rfl⟩ := nt_int n20
    obtain rfl := nt_bool n21
    obtain rfl := nt_bool n22
    obtain ⟨t23, rfl⟩ := nt_int n23
    obtain rfl := nt_ref n24
    obtain rfl := nt_bool n25
    have S26 := ((((((S10.grow s20).grow s21).grow s22).grow s23).grow s24).grow s25)
    refine ⟨sp.fn _ (fun q hq => S26.get (List.mem_append_left _ hq)), (sp.run (vt := []) (Kp := []) num clr t20 t23 hnum (C'.le (by decide)) S26 fun d dl h27 tk27 hf hfd hg2 S27 => ?_).out⟩
    rw [List.append_nil] at S27
    refine ret _ _ _ _ _ _ S27 ⟨d, rfl, hf, hfd, ?_⟩
    · intro P ps hm
      rcases List.mem_append.mp (show (P, tabObj ps) ∈ [(165, tabObj #[])] ++ [(102, tabObj #[])] from hm) with hm | hm
      · obtain ⟨ps', h'⟩ := hg P ps hm
        exact hg2 P ps' (List.mem_append_left _ h')
      · exact hg2 P ps (List.mem_append_right _ hm)
  · rintro v h' tk' nw ⟨f, rfl, hf, hs, hg⟩ S'
    exact k f nw h' tk' hf hs hg S' 

/-- kind 17 -/
theorem xd_17 {md : Nat} (hmd : md ≤ 2) : XD prog w md 232 [(172, tabObj #[]), (165, tabObj #[])] 0 (MOk 32 (fun n => .int (zz n) 0)) := by
  refine ⟨?_⟩
  intro loose mean mg mb A A₀ env outer base h₀ h L ns vs rest gs dr tk os Q E num clr t1 t2 hnum C S k
  have S : St h₀ L h ns vs ([(172, tabObj #[]), (165, tabObj #[]), (102, tabObj #[])] ++ rest) := S
  refine call_g (cl := []) (foot := [(172, tabObj #[]), (165, tabObj #[]), (102, tabObj #[])]) (rest := rest) (args := ⟨[.int num t1, .bool (decide (0 < md)), .bool (md == 2), .int num t2, .ref 383, .bool clr], []⟩) (binds := [(Str.ofString "field_number", .int num t1), (Str.ofString "is_repeated", .bool (decide (0 < md))), (Str.ofString "is_packed", .bool (md == 2)), (Str.ofString "key", .int num t2), (Str.ofString "new_default", .ref 383), (Str.ofString "clear_if_default", .bool clr)]) (Rel := fun v nw => ∃ f, v = .ref f ∧ (∀ h : Heap, (∀ q ∈ nw, h.get? q.1 = some q.2) → FnAt f h) ∧ FD prog w md f nw num clr (vB (8 * num + 0)) (MOk 32 (fun n => .int (zz n) 0)) ∧ GT [(172, tabObj #[]), (165, tabObj #[]), (102, tabObj #[])] nw) (ns' := [Str.ofString "field_number", Str.ofString "is_repeated", Str.ofString "is_packed", Str.ofString "key", Str.ofString "new_default", Str.ofString "clear_if_default"]) (gl' := [Str.ofString "_ModifiedDecoder", Str.ofString "WIRETYPE_VARINT", Str.ofString "_DecodeVarint32", Str.ofString "ZigZagDecode"]) C S (K_get C S (by k_is)) rfl (K_code C S (by k_is)) (BindsTo.of_defaults rfl (K_get C S (f := 225) (by k_is)) rfl rfl rfl) (fnEnv_ofG rfl (by decide +kernel) (by decide +kernel) (by decide +kernel) (by decide +kernel)) (vs2 := fun _ => [some (.int num 0), some (.bool (decide (0 < md))), some (.bool (md == 2)), some (.int num 0), some (.ref 383), some (.bool clr)]) (nw2 := fun L' => [(172, tabObj #[]), (165, tabObj #[]), (102, tabObj #[])]) (fun L' => (.loc .hd (.loc (.tl .hd) (.loc (.tl (.tl .hd)) (.loc (.tl (.tl (.tl .hd))) (.loc (.tl (.tl (.tl (.tl .hd)))) (.loc (.tl (.tl (.tl (.tl (.tl .hd))))) .nil))))))) ?_ ?_
  · intro g L2 h₁ tk₁ env' A' he hA C' N' S' kp Q' E' ret
    clear hA kp he
    refine x_retW (c_fnW (c_fn (a := 177) (Ev.glob N' C' S' (by k_is) (.head _) rfl) fun h2 tk2 s2 => sp_p (Ev.glob N' C' (S'.grow s2) (by k_is) (.tail _ (.head _)) rfl) fun v3 h3 tk3 n3 s3 => sp_p (Ev.glob N' C' ((S'.grow s2).grow s3) (by k_is) (.tail _ (.tail _ (.head _))) rfl) fun v4 h4 tk4 n4 s4 => sp_p (Ev.glob N' C' (((S'.grow s2).grow s3).grow s4) (by k_is) (.tail _ (.tail _ (.tail _ (.head _)))) rfl) fun v5 h5 tk5 n5 s5 => sp_n ?_))
    obtain ⟨t3, rfl⟩ := nt_int n3
    obtain rfl := nt_ref n4
    obtain rfl := nt_ref n5
    have S9 : St g L2 _ _ _ ([(172, tabObj #[]), (165, tabObj #[])] ++ [(102, tabObj #[])]) := ((((S'.grow s2).grow s3).grow s4).grow s5)
    refine ⟨fnAt_K C' S9 (by k_is), (mod_mk (wt := 0) (bt := 32) (cv := (fun n => .int (zz n) 0)) hmd (by decide) (by decide) (es_156.up (by decide)) (fa6_156 (prog := prog)) (zz_ok.up (by decide)) (fa_92 (prog := prog)) MOk.numI C' S9 fun f sl h10 tk10 sp hg S10 => ?_).out⟩
    refine ⟨f, rfl, sp.fn _ (fun q hq => S10.get (List.mem_append_left _ hq)), ?_⟩
    refine sp_p (Ev.loc N' S10 .hd) fun v20 h20 tk20 n20 s20 => sp_p (Ev.loc N' (S10.grow s20) (.tl .hd)) fun v21 h21 tk21 n21 s21 => sp_p (Ev.loc N' ((S10.grow s20).grow s21) (.tl (.tl .hd))) fun v22 h22 tk22 n22 s22 => sp_p (Ev.loc N' (((S10.grow s20).grow s21).grow s22) (.tl (.tl (.tl .hd)))) fun v23 h23 tk23 n23 s23 => sp_p (Ev.loc N' ((((S10.grow s20).grow s21).grow s22).grow s23) (.tl (.tl (.tl (.tl .hd))))) fun v24 h24 tk24 n24 s24 => sp_p (Ev.loc N' (((((S10.grow s20).grow s21).grow s22).grow s23).grow s24) (.tl (.tl (.tl (.tl (.tl .hd)))))) fun v25 h25 tk25 n25 s25 => sp_n ?_
    obtain ⟨t20, rfl⟩ := nt_int n20
    obtain rfl := nt_bool n21
    obtain rfl := nt_bool n22
    obtain ⟨t23, rfl⟩ := nt_int n23
    obtain rfl := nt_ref n24
    obtain rfl := nt_bool n25
    have S26 := ((((((S10.grow s20).grow s21).grow s22).grow s23).grow s24).grow s25)
    refine ⟨sp.fn _ (fun q hq => S26.get (List.mem_append_left _ hq)), (sp.run (vt := []) (Kp := []) num clr t20 t23 hnum (C'.le (by decide)) S26 fun d dl h27 tk27 hf hfd hg2 S27 => ?_).out⟩
    rw [List.append_nil] at S27
    refine ret _ _ _ _ _ _ S27 ⟨d, rfl, hf, hfd, ?_⟩
    · intro P ps hm
      rcases List.mem_append.mp (show (P, tabObj ps) ∈ [(172, tabObj #[]), (165, tabObj #[])] ++ [(102, tabObj #[])] from hm) with hm | hm
      · obtain ⟨ps', h'⟩ := hg P ps hm
        exact hg2 P ps' (List.mem_append_left _ h')
      · exact hg2 P ps (List.mem_append_right _ hm)
  · rintro v h' tk' nw ⟨f, rfl, hf, hs, hg⟩ S'
    exact k f nw h' tk' hf hs hg S' 

/-- kind 18 -/
theorem xd_18 {md : Nat} (hmd : md ≤ 2) : XD prog w md 240 [(172, tabObj #[]), (165, tabObj #[])] 0 (MOk 64 (fun n => .int (zz n) 0)) := by
  refine ⟨?_⟩
  intro loose mean mg mb A A₀ env outer base h₀ h L ns vs rest gs dr tk os Q E num clr t1 t2 hnum C S k
  have S : St h₀ L h ns vs ([(172, tabObj #[]), (165, tabObj #[]), (102, tabObj #[])] ++ rest) := S
  refine call_g (cl := []) (foot := [(172, tabObj #[]), (165, tabObj #[]), (102, tabObj #[])]) (rest := rest) (args := ⟨[.int num t1, .bool (decide (0 < md)), .bool (md == 2), .int num t2, .ref 383, .bool clr], []⟩) (binds := [(Str.ofString "field_number", .int num t1), (Str.ofString "is_repeated", .bool (decide (0 < md))), (Str.ofString "is_packed", .bool (md == 2)), (Str.ofString "key", .int num t2), (Str.ofString "new_default", .ref 383), (Str.ofString "clear_if_default", .bool clr)]) (Rel := fun v nw => ∃ f, v = .ref f ∧ (∀ h : Heap, (∀ q ∈ nw, h.get? q.1 = some q.2) → FnAt f h) ∧ FD prog w md f nw num clr (vB (8 * num + 0)) (MOk 64 (fun n => .int (zz n) 0)) ∧ GT [(172, tabObj #[]), (165, tabObj #[]), (102, tabObj #[])] nw) (ns' := [Str.ofString "field_number", Str.ofString "is_repeated", Str.ofString "is_packed", Str.ofString "key", Str.ofString "new_default", Str.ofString "clear_if_default"]) (gl' := [Str.ofString "_ModifiedDecoder", Str.ofString "WIRETYPE_VARINT", Str.ofString "_DecodeVarint", Str.ofString "ZigZagDecode"]) C S (K_get C S (by k_is)) rfl (K_code C S (by k_is)) (BindsTo.of_defaults rfl (K_get C S (f := 233) (by k_is)) rfl rfl rfl) (fnEnv_ofG rfl (by decide +kernel) (by decide +kernel) (by decide +kernel) (by decide +kernel)) (vs2 := fun _ => [some (.int num 0), some (.bool (decide (0 < md))), some (.bool (md == 2)), some (.int num 0), some (.ref 383), some (.bool clr)]) (nw2 := fun L' => [(172, tabObj #[]), (165, tabObj #[]), (102, tabObj #[])]) (fun L' => (.loc .hd (.loc (.tl .hd) (.loc (.tl (.tl .hd)) (.loc (.tl (.tl (.tl .hd))) (.loc (.tl (.tl (.tl (.tl .hd)))) (.loc (.tl (.tl (.tl (.tl (.tl .hd))))) .nil))))))) ?_ ?_
  · intro g L2 h₁ tk₁ env' A' he hA C' N' S' kp Q' E' ret
    clear hA kp he
    refine x_retW (c_fnW (c_fn (a := 177) (Ev.glob N' C' S' (by k_is) (.head _) rfl) fun h2 tk2 s2 => sp_p (Ev.glob N' C' (S'.grow s2) (by k_is) (.tail _ (.head _)) rfl) fun v3 h3 tk3 n3 s3 => sp_p (Ev.glob N' C' ((S'.grow s2).grow s3) (by k_is) (.tail _ (.tail _ (.head _))) rfl) fun v4 h4 tk4 n4 s4 => sp_p (Ev.glob N' C' (((S'.grow s2).grow s3).grow s4) (by k_is) (.tail _ (.tail _ (.tail _ (.head _)))) rfl) fun v5 h5 tk5 n5 s5 => sp_n ?_))
    obtain ⟨t3, rfl⟩ := nt_int n3
    obtain rfl := nt_ref n4
    obtain rfl := nt_ref n5
    have S9 : St g L2 _ _ _ ([(172, tabObj #[]), (165, tabObj #[])] ++ [(102, tabObj #[])]) := ((((S'.grow s2).grow s3).grow s4).grow s5)
    refine ⟨fnAt_K C' S9 (by k_is), (mod_mk (wt := 0) (bt := 64) (cv := (fun n => .int (zz n) 0)) hmd (by decide) (by decide) (es_142.up (by decide)) (fa6_142 (prog := prog)) (zz_ok.up (by decide)) (fa_92 (prog := prog)) MOk.numI C' S9 fun f sl h10 tk10 sp hg S10 => ?_).out⟩
    refine ⟨f, rfl, sp.fn _ (fun q hq => S10.get (List.mem_append_left _ hq)), ?_⟩
    refine sp_p (Ev.loc N' S10 .hd) fun v20 h20 tk20 n20 s20 => sp_p (Ev.loc N' (S10.grow s20) (.tl .hd)) fun v21 h21 tk21 n21 s21 => sp_p (Ev.loc N' ((S10.grow s20).grow s21) (.tl (.tl .hd))) fun v22 h22 tk22 n22 s22 => sp_p (Ev.loc N' (((S10.grow s20).grow s21).grow s22) (.tl (.tl (.tl .hd)))) fun v23 h23 tk23 n23 s23 => sp_p (Ev.loc N' ((((S10.grow s20).grow s21).grow s22).grow s23) (.tl (.tl (.tl (.tl .hd))))) fun v24 h24 tk24 n24 s24 => sp_p (Ev.loc N' (((((S10.grow s20).grow s21).grow s22).grow s23).grow s24) (.tl (.tl (.tl (.tl (.tl .hd)))))) fun v25 h25 tk25 n25 s25 => sp_n ?_
    obtain ⟨t20, rfl⟩ := nt_int n20
    obtain rfl := nt_bool n21
    obtain rfl := nt_bool n22
    obtain ⟨t23, rfl⟩ := nt_int n23
    obtain rfl := nt_ref n24
    obtain rfl := nt_bool n25
    have S26 := ((((((S10.grow s20).grow s21).grow s22).grow s23).grow s24).grow s25)
    refine ⟨sp.fn _ (fun q hq => S26.get (List.mem_append_left _ hq)), (sp.run (vt := []) (Kp := []) num clr t20 t23 hnum (C'.le (by decide)) S26 fun d dl h27 tk27 hf hfd hg2 S27 => ?_).out⟩
    rw [List.append_nil] at S27
    refine ret _ _ _ _ _ _ S27 ⟨d, rfl, hf, hfd, ?_⟩
    · intro P ps hm
      rcases List.mem_append.mp (show (P, tabObj ps) ∈ [(172, tabObj #[]), (165, tabObj #[])] ++ [(102, tabObj #[])] from hm) with hm | hm
      · obtain ⟨ps', h'⟩ := hg P ps hm
        exact hg2 P ps' (List.mem_append_left _ h')
      · exact hg2 P ps (List.mem_append_right _ hm)
  · rintro v h' tk' nw ⟨f, rfl, hf, hs, hg⟩ S'
    exact k f nw h' tk' hf hs hg S' 

/-- kind 8 -/
theorem xd_8 {md : Nat} (hmd : md ≤ 2) : XD prog w md 287 [(172, tabObj #[]), (165, tabObj #[])] 0 (MOk 64 (fun n => .bool (n != 0))) := by
  refine ⟨?_⟩
  intro loose mean mg mb A A₀ env outer base h₀ h L ns vs rest gs dr tk os Q E num clr t1 t2 hnum C S k
  have S : St h₀ L h ns vs ([(172, tabObj #[]), (165, tabObj #[]), (102, tabObj #[])] ++ rest) := S
  refine call_g (cl := []) (foot := [(172, tabObj #[]), (165, tabObj #[]), (102, tabObj #[])]) (rest := rest) (args := ⟨[.int num t1, .bool (decide (0 < md)), .bool (md == 2), .int num t2, .ref 383, .bool clr], []⟩) (binds := [(Str.ofString "field_number", .int num t1), (Str.ofString "is_repeated", .bool (decide (0 < md))), (Str.ofString "is_packed", .bool (md == 2)), (Str.ofString "key", .int num t2), (Str.ofString "new_default", .ref 383), (Str.ofString "clear_if_default", .bool clr)]) (Rel := fun v nw => ∃ f, v = .ref f ∧ (∀ h : Heap, (∀ q ∈ nw, h.get? q.1 = some q.2) → FnAt f h) ∧ FD prog w md f nw num clr (vB (8 * num + 0)) (MOk 64 (fun n => .bool (n != 0))) ∧ GT [(172, tabObj #[]), (165, tabObj #[]), (102, tabObj #[])] nw) (ns' := [Str.ofString "field_number", Str.ofString "is_repeated", Str.ofString "is_packed", Str.ofString "key", Str.ofString "new_default", Str.ofString "clear_if_default"]) (gl' := [Str.ofString "_ModifiedDecoder", Str.ofString "WIRETYPE_VARINT", Str.ofString "_DecodeVarint", Str.ofString "_BoolValue"]) C S (K_get C S (by k_is)) rfl (K_code C S (by k_is)) (BindsTo.of_defaults rfl (K_get C S (f := 280) (by k_is)) rfl rfl rfl) (fnEnv_ofG rfl (by decide +kernel) (by decide +kernel) (by decide +kernel) (by decide +kernel)) (vs2 := fun _ => [some (.int num 0), some (.bool (decide (0 < md))), some (.bool (md == 2)), some (.int num 0), some (.ref 383), some (.bool clr)]) (nw2 := fun L' => [(172, tabObj #[]), (165, tabObj #[]), (102, tabObj #[])]) (fun L' => (.loc .hd (.loc (.tl .hd) (.loc (.tl (.tl .hd)) (.loc (.tl (.tl (.tl .hd))) (.loc (.tl (.tl (.tl (.tl .hd)))) (.loc (.tl (.tl (.tl (.tl (.tl .hd))))) .nil))))))) ?_ ?_
  · intro g L2 h₁ tk₁ env' A' he hA C' N' S' kp Q' E' ret
    clear hA kp he
    refine x_retW (c_fnW (c_fn (a := 177) (Ev.glob N' C' S' (by k_is) (.head _) rfl) fun h2 tk2 s2 => sp_p (Ev.glob N' C' (S'.grow s2) (by k_is) (.tail _ (.head _)) rfl) fun v3 h3 tk3 n3 s3 => sp_p (Ev.glob N' C' ((S'.grow s2).grow s3) (by k_is) (.tail _ (.tail _ (.head _))) rfl) fun v4 h4 tk4 n4 s4 => sp_p (Ev.glob N' C' (((S'.grow s2).grow s3).grow s4) (by k_is) (.tail _ (.tail _ (.tail _ (.head _)))) rfl) fun v5 h5 tk5 n5 s5 => sp_n ?_))
    obtain ⟨t3, rfl⟩ := nt_int n3
    obtain rfl := nt_ref n4
    obtain rfl := nt_ref n5
    have S9 : St g L2 _ _ _ ([(172, tabObj #[]), (165, tabObj #[])] ++ [(102, tabObj #[])]) := ((((S'.grow s2).grow s3).grow s4).grow s5)
    refine ⟨fnAt_K C' S9 (by k_is), (mod_mk (wt := 0) (bt := 64) (cv := (fun n => .bool (n != 0))) hmd (by decide) (by decide) (es_142.up (by decide)) (fa6_142 (prog := prog)) (bv_ok.up (by decide)) (fa_279 (prog := prog)) MOk.numB C' S9 fun f sl h10 tk10 sp hg S10 => ?_).out⟩
    refine ⟨f, rfl, sp.fn _ (fun q hq => S10.get (List.mem_append_left _ hq)), ?_⟩
    refine sp_p (Ev.loc N' S10 .hd) fun v20 h20 tk20 n20 s20 => sp_p (Ev.loc N' (S10.grow s20) (.tl .hd)) fun v21 h21 tk21 n21 s21 => sp_p (Ev.loc N' ((S10.grow s20).grow s21) (.tl (.tl .hd))) fun v22 h22 tk22 n22 s22 => sp_p (Ev.loc N' (((S10.grow s20).grow s21).grow s22) (.tl (.tl (.tl .hd)))) fun v23 h23 tk23 n23 s23 => sp_p (Ev.loc N' ((((S10.grow s20).grow s21).grow s22).grow s23) (.tl (.tl (.tl (.tl .hd))))) fun v24 h24 tk24 n24 s24 => sp_p (Ev.loc N' (((((S10.grow s20).grow s21).grow s22).grow s23).grow s24) (.tl (.tl (.tl (.tl (.tl .hd)))))) fun v25 h25 tk25 n25 s25 => sp_n ?_
    obtain ⟨t20, rfl⟩ := nt_int n20
    obtain rfl := nt_bool n21
    obtain rfl := nt_bool n22
    obtain ⟨t23, rfl⟩ := nt_int n23
    obtain rfl := nt_ref n24
    obtain rfl := nt_bool n25
    have S26 := ((((((S10.grow s20).grow s21).grow s22).grow s23).grow s24).grow s25)
    refine ⟨sp.fn _ (fun q hq => S26.get (List.mem_append_left _ hq)), (sp.run (vt := []) (Kp := []) num clr t20 t23 hnum (C'.le (by decide)) S26 fun d dl h27 tk27 hf hfd hg2 S27 => ?_).out⟩
    rw [List.append_nil] at S27
    refine ret _ _ _ _ _ _ S27 ⟨d, rfl, hf, hfd, ?_⟩
    · intro P ps hm
      rcases List.mem_append.mp (show (P, tabObj ps) ∈ [(172, tabObj #[]), (165, tabObj #[])] ++ [(102, tabObj #[])] from hm) with hm | hm
      · obtain ⟨ps', h'⟩ := hg P ps hm
        exact hg2 P ps' (List.mem_append_left _ h')
      · exact hg2 P ps (List.mem_append_right _ hm)
  · rintro v h' tk' nw ⟨f, rfl, hf, hs, hg⟩ S'
    exact k f nw h' tk' hf hs hg S' 

/-- kind 7 -/
theorem xd_7 {md : Nat} (hmd : md ≤ 2) : XD prog w md 248 [(179, tabObj #[]), (165, tabObj #[])] 5 (POk false 4) := by
  refine ⟨?_⟩
  intro loose mean mg mb A A₀ env outer base h₀ h L ns vs rest gs dr tk os Q E num clr t1 t2 hnum C S k
  have S : St h₀ L h ns vs ([(179, tabObj #[]), (165, tabObj #[]), (102, tabObj #[])] ++ rest) := S
  refine call_g (cl := []) (foot := [(179, tabObj #[]), (165, tabObj #[]), (102, tabObj #[])]) (rest := rest) (args := ⟨[.int num t1, .bool (decide (0 < md)), .bool (md == 2), .int num t2, .ref 383, .bool clr], []⟩) (binds := [(Str.ofString "field_number", .int num t1), (Str.ofString "is_repeated", .bool (decide (0 < md))), (Str.ofString "is_packed", .bool (md == 2)), (Str.ofString "key", .int num t2), (Str.ofString "new_default", .ref 383), (Str.ofString "clear_if_default", .bool clr)]) (Rel := fun v nw => ∃ f, v = .ref f ∧ (∀ h : Heap, (∀ q ∈ nw, h.get? q.1 = some q.2) → FnAt f h) ∧ FD prog w md f nw num clr (vB (8 * num + 5)) (POk false 4) ∧ GT [(179, tabObj #[]), (165, tabObj #[]), (102, tabObj #[])] nw) (ns' := [Str.ofString "field_number", Str.ofString "is_repeated", Str.ofString "is_packed", Str.ofString "key", Str.ofString "new_default", Str.ofString "clear_if_default"]) (gl' := [Str.ofString "_StructPackDecoder", Str.ofString "WIRETYPE_FIXED32"]) C S (K_get C S (by k_is)) rfl (K_code C S (by k_is)) (BindsTo.of_defaults rfl (K_get C S (f := 241) (by k_is)) rfl rfl rfl) (fnEnv_ofG rfl (by decide +kernel) (by decide +kernel) (by decide +kernel) (by decide +kernel)) (vs2 := fun _ => [some (.int num 0), some (.bool (decide (0 < md))), some (.bool (md == 2)), some (.int num 0), some (.ref 383), some (.bool clr)]) (nw2 := fun L' => [(179, tabObj #[]), (165, tabObj #[]), (102, tabObj #[])]) (fun L' => (.loc .hd (.loc (.tl .hd) (.loc (.tl (.tl .hd)) (.loc (.tl (.tl (.tl .hd))) (.loc (.tl (.tl (.tl (.tl .hd)))) (.loc (.tl (.tl (.tl (.tl (.tl .hd))))) .nil))))))) ?_ ?_
  · intro g L2 h₁ tk₁ env' A' he hA C' N' S' kp Q' E' ret
    clear hA kp he
    refine x_retW (c_fnW (c_fn (a := 184) (Ev.glob N' C' S' (by k_is) (.head _) rfl) fun h2 tk2 s2 => sp_p (Ev.glob N' C' (S'.grow s2) (by k_is) (.tail _ (.head _)) rfl) fun v3 h3 tk3 n3 s3 => sp_p Ev.cstr fun v4 h4 tk4 n4 s4 => sp_n ?_))
    obtain ⟨t3, rfl⟩ := nt_int n3
    obtain ⟨t4, rfl⟩ := nt_str n4
    have S9 : St g L2 _ _ _ ([(179, tabObj #[]), (165, tabObj #[])] ++ [(102, tabObj #[])]) := (((S'.grow s2).grow s3).grow s4)
    refine ⟨fnAt_K C' S9 (by k_is), (pack_mk (wt := 5) (sz := 4) (sg := false) hmd (by decide) .I C' S9 fun f sl h10 tk10 sp hg S10 => ?_).out⟩
    refine ⟨f, rfl, sp.fn _ (fun q hq => S10.get (List.mem_append_left _ hq)), ?_⟩
    refine sp_p (Ev.loc N' S10 .hd) fun v20 h20 tk20 n20 s20 => sp_p (Ev.loc N' (S10.grow s20) (.tl .hd)) fun v21 h21 tk21 n21 s21 => sp_p (Ev.loc N' ((S10.grow s20).grow s21) (.tl (.tl .hd))) fun v22 h22 tk22 n22 s22 => sp_p (Ev.loc N' (((S10.grow s20).grow s21).grow s22) (.tl (.tl (.tl .hd)))) fun v23 h23 tk23 n23 s23 => sp_p (Ev.loc N' ((((S10.grow s20).grow s21).grow s22).grow s23) (.tl (.tl (.tl (.tl .hd))))) fun v24 h24 tk24 n24 s24 => sp_p (Ev.loc N' (((((S10.grow s20).grow s21).grow s22).grow s23).grow s24) (.tl (.tl (.tl (.tl (.tl .hd)))))) fun v25 h25 tk25 n25 s25 => sp_n ?_
    obtain ⟨t20, rfl⟩ := nt_int n20
    obtain rfl := nt_bool n21
    obtain rfl := nt_bool n22
    obtain ⟨t23, rfl⟩ := nt_int n23
    obtain rfl := nt_ref n24
    obtain rfl := nt_bool n25
    have S26 := ((((((S10.grow s20).grow s21).grow s22).grow s23).grow s24).grow s25)
    refine ⟨sp.fn _ (fun q hq => S26.get (List.mem_append_left _ hq)), (sp.run (vt := []) (Kp := []) num clr t20 t23 hnum (C'.le (by decide)) S26 fun d dl h27 tk27 hf hfd hg2 S27 => ?_).out⟩
    rw [List.append_nil] at S27
    refine ret _ _ _ _ _ _ S27 ⟨d, rfl, hf, hfd, ?_⟩
    · intro P ps hm
      rcases List.mem_append.mp (show (P, tabObj ps) ∈ [(179, tabObj #[]), (165, tabObj #[])] ++ [(102, tabObj #[])] from hm) with hm | hm
      · obtain ⟨ps', h'⟩ := hg P ps hm
        exact hg2 P ps' (List.mem_append_left _ h')
      · exact hg2 P ps (List.mem_append_right _ hm)
  · rintro v h' tk' nw ⟨f, rfl, hf, hs, hg⟩ S'
    exact k f nw h' tk' hf hs hg S' 

/-- kind 6 -/
theorem xd_6 {md : Nat} (hmd : md ≤ 2) : XD prog w md 256 [(179, tabObj #[]), (165, tabObj #[])] 1 (POk false 8) := by
  refine ⟨?_⟩
  intro loose mean mg mb A A₀ env outer base h₀ h L ns vs rest gs dr tk os Q E num clr t1 t2 hnum C S k
  have S : St h₀ L h ns vs ([(179, tabObj #[]), (165, tabObj #[]), (102, tabObj #[])] ++ rest) := S
  refine call_g (cl := []) (foot := [(179, tabObj #[]), (165, tabObj #[]), (102, tabObj #[])]) (rest := rest) (args := ⟨[.int num t1, .bool (decide (0 < md)), .bool (md == 2), .int num t2, .ref 383, .bool clr], []⟩) (binds := [(Str.ofString "field_number", .int num t1), (Str.ofString "is_repeated", .bool (decide (0 < md))), (Str.ofString "is_packed", .bool (md == 2)), (Str.ofString "key", .int num t2), (Str.ofString "new_default", .ref 383), (Str.ofString "clear_if_default", .bool clr)]) (Rel := fun v nw => ∃ f, v = .ref f ∧ (∀ h : Heap, (∀ q ∈ nw, h.get? q.1 = some q.2) → FnAt f h) ∧ FD prog w md f nw num clr (vB (8 * num + 1)) (POk false 8) ∧ GT [(179, tabObj #[]), (165, tabObj #[]), (102, tabObj #[])] nw) (ns' := [Str.ofString "field_number", Str.ofString "is_repeated", Str.ofString "is_packed", Str.ofString "key", Str.ofString "new_default", Str.ofString "clear_if_default"]) (gl' := [Str.ofString "_StructPackDecoder", Str.ofString "WIRETYPE_FIXED64"]) C S (K_get C S (by k_is)) rfl (K_code C S (by k_is)) (BindsTo.of_defaults rfl (K_get C S (f := 249) (by k_is)) rfl rfl rfl) (fnEnv_ofG rfl (by decide +kernel) (by decide +kernel) (by decide +kernel) (by decide +kernel)) (vs2 := fun _ => [some (.int num 0), some (.bool (decide (0 < md))), some (.bool (md == 2)), some (.int num 0), some (.ref 383), some (.bool clr)]) (nw2 := fun L' => [(179, tabObj #[]), (165, tabObj #[]), (102, tabObj #[])]) (fun L' => (.loc .hd (.loc (.tl .hd) (.loc (.tl (.tl .hd)) (.loc (.tl (.tl (.tl .hd))) (.loc (.tl (.tl (.tl (.tl .hd)))) (.loc (.tl (.tl (.tl (.tl (.tl .hd))))) .nil))))))) ?_ ?_
  · intro g L2 h₁ tk₁ env' A' he hA C' N' S' kp Q' E' ret
    clear hA kp he
    refine x_retW (c_fnW (c_fn (a := 184) (Ev.glob N' C' S' (by k_is) (.head _) rfl) fun h2 tk2 s2 => sp_p (Ev.glob N' C' (S'.grow s2) (by k_is) (.tail _ (.head _)) rfl) fun v3 h3 tk3 n3 s3 => sp_p Ev.cstr fun v4 h4 tk4 n4 s4 => sp_n ?_))
    obtain ⟨t3, rfl⟩ := nt_int n3
    obtain ⟨t4, rfl⟩ := nt_str n4
    have S9 : St g L2 _ _ _ ([(179, tabObj #[]), (165, tabObj #[])] ++ [(102, tabObj #[])]) := (((S'.grow s2).grow s3).grow s4)
    refine ⟨fnAt_K C' S9 (by k_is), (pack_mk (wt := 1) (sz := 8) (sg := false) hmd (by decide) .Q C' S9 fun f sl h10 tk10 sp hg S10 => ?_).out⟩
    refine ⟨f, rfl, sp.fn _ (fun q hq => S10.get (List.mem_append_left _ hq)), ?_⟩
    refine sp_p (Ev.loc N' S10 .hd) fun v20 h20 tk20 n20 s20 => sp_p (Ev.loc N' (S10.grow s20) (.tl .hd)) fun v21 h21 tk21 n21 s21 => sp_p (Ev.loc N' ((S10.grow s20).grow s21) (.tl (.tl .hd))) fun v22 h22 tk22 n22 s22 => sp_p (Ev.loc N' (((S10.grow s20).grow s21).grow s22) (.tl (.tl (.tl .hd)))) fun v23 h23 tk23 n23 s23 => sp_p (Ev.loc N' ((((S10.grow s20).grow s21).grow s22).grow s23) (.tl (.tl (.tl (.tl .hd))))) fun v24 h24 tk24 n24 s24 => sp_p (Ev.loc N' (((((S10.grow s20).grow s21).grow s22).grow s23).grow s24) (.tl (.tl (.tl (.tl (.tl .hd)))))) fun v25 h25 tk25 n25 s25 => sp_n ?_
    obtain ⟨t20, rfl⟩ := nt_int n20
    obtain rfl := nt_bool n21
    obtain rfl := nt_bool n22
    obtain ⟨t23, rfl⟩ := nt_int n23
    obtain rfl := nt_ref n24
    obtain rfl := nt_bool n25
    have S26 := ((((((S10.grow s20).grow s21).grow s22).grow s23).grow s24).grow s25)
    refine ⟨sp.fn _ (fun q hq => S26.get (List.mem_append_left _ hq)), (sp.run (vt := []) (Kp := []) num clr t20 t23 hnum (C'.le (by decide)) S26 fun d dl h27 tk27 hf hfd hg2 S27 => ?_).out⟩
    rw [List.append_nil] at S27
    refine ret _ _ _ _ _ _ S27 ⟨d, rfl, hf, hfd, ?_⟩
    · intro P ps hm
      rcases List.mem_append.mp (show (P, tabObj ps) ∈ [(179, tabObj #[]), (165, tabObj #[])] ++ [(102, tabObj #[])] from hm) with hm | hm
      · obtain ⟨ps', h'⟩ := hg P ps hm
        exact hg2 P ps' (List.mem_append_left _ h')
      · exact hg2 P ps (List.mem_append_right _ hm)
  · rintro v h' tk' nw ⟨f, rfl, hf, hs, hg⟩ S'
    exact k f nw h' tk' hf hs hg S' 

/-- kind 15 -/
theorem xd_15 {md : Nat} (hmd : md ≤ 2) : XD prog w md 264 [(179, tabObj #[]), (165, tabObj #[])] 5 (POk true 4) := by
  refine ⟨?_⟩
  intro loose mean mg mb A A₀ env outer base h₀ h L ns vs rest gs dr tk os Q E num clr t1 t2 hnum C S k
  have S : St h₀ L h ns vs ([(179, tabObj #[]), (165, tabObj #[]), (102, tabObj #[])] ++ rest) := S
  refine call_g (cl := []) (foot := [(179, tabObj #[]), (165, tabObj #[]), (102, tabObj #[])]) (rest := rest) (args := ⟨[.int num t1, .bool (decide (0 < md)), .bool (md == 2), .int num t2, .ref 383, .bool clr], []⟩) (binds := [(Str.ofString "field_number", .int num t1), (Str.ofString "is_repeated", .bool (decide (0 < md))), (Str.ofString "is_packed", .bool (md == 2)), (Str.ofString "key", .int num t2), (Str.ofString "new_default", .ref 383), (Str.ofString "clear_if_default", .bool clr)]) (Rel := fun v nw => ∃ f, v = .ref f ∧ (∀ h : Heap, (∀ q ∈ nw, h.get? q.1 = some q.2) → FnAt f h) ∧ FD prog w md f nw num clr (vB (8 * num + 5)) (POk true 4) ∧ GT [(179, tabObj #[]), (165, tabObj #[]), (102, tabObj #[])] nw) (ns' := [Str.ofString "field_number", Str.ofString "is_repeated", Str.ofString "is_packed", Str.ofString "key", Str.ofString "new_default", Str.ofString "clear_if_default"]) (gl' := [Str.ofString "_StructPackDecoder", Str.ofString "WIRETYPE_FIXED32"]) C S (K_get C S (by k_is)) rfl (K_code C S (by k_is)) (BindsTo.of_defaults rfl (K_get C S (f := 257) (by k_is)) rfl rfl rfl) (fnEnv_ofG rfl (by decide +kernel) (by decide +kernel) (by decide +kernel) (by decide +kernel)) (vs2 := fun _ => [some (.int num 0), some (.bool (decide (0 < md))), some (.bool (md == 2)), some (.int num 0), some (.ref 383), some (.bool clr)]) (nw2 := fun L' => [(179, tabObj #[]), (165, tabObj #[]), (102, tabObj #[])]) (fun L' => (.loc .hd (.loc (.tl .hd) (.loc (.tl (.tl .hd)) (.loc (.tl (.tl (.tl .hd))) (.loc (.tl (.tl (.tl (.tl .hd)))) (.loc (.tl (.tl (.tl (.tl (.tl .hd))))) .nil))))))) ?_ ?_
  · intro g L2 h₁ tk₁ env' A' he hA C' N' S' kp Q' E' ret
    clear hA kp he
    refine x_retW (c_fnW (c_fn (a := 184) (Ev.glob N' C' S' (by k_is) (.head _) rfl) fun h2 tk2 s2 => sp_p (Ev.glob N' C' (S'.grow s2) (by k_is) (.tail _ (.head _)) rfl) fun v3 h3 tk3 n3 s3 => sp_p Ev.cstr fun v4 h4 tk4 n4 s4 => sp_n ?_))
    obtain ⟨t3, rfl⟩ := nt_int n3
    obtain ⟨t4, rfl⟩ := nt_str n4
    have S9 : St g L2 _ _ _ ([(179, tabObj #[]), (165, tabObj #[])] ++ [(102, tabObj #[])]) := (((S'.grow s2).grow s3).grow s4)
    refine ⟨fnAt_K C' S9 (by k_is), (pack_mk (wt := 5) (sz := 4) (sg := true) hmd (by decide) .i C' S9 fun f sl h10 tk10 sp hg S10 => ?_).out⟩
    refine ⟨f, rfl, sp.fn _ (fun q hq => S10.get (List.mem_append_left _ hq)), ?_⟩
    refine sp_p (Ev.loc N' S10 .hd) fun v20 h20 tk20 n20 s20 => sp_p (Ev.loc N' (S10.grow s20) (.tl .hd)) fun v21 h21 tk21 n21 s21 => sp_p (Ev.loc N' ((S10.grow s20).grow s21) (.tl (.tl .hd))) fun v22 h22 tk22 n22 s22 => sp_p (Ev.loc N' (((S10.grow s20).grow s21).grow s22) (.tl (.tl (.tl .hd)))) fun v23 h23 tk23 n23 s23 => sp_p (Ev.loc N' ((((S10.grow s20).grow s21).grow s22).grow s23) (.tl (.tl (.tl (.tl .hd))))) fun v24 h24 tk24 n24 s24 => sp_p (Ev.loc N' (((((S10.grow s20).grow s21).grow s22).grow s23).grow s24) (.tl (.tl (.tl (.tl (.tl .hd)))))) fun v25 h25 tk25 n25 s25 => sp_n ?_
    obtain ⟨t20, rfl⟩ := nt_int n20
    obtain rfl := nt_bool n21
    obtain rfl := nt_bool n22
    obtain ⟨t23, rfl⟩ := nt_int n23
    obtain rfl := nt_ref n24
    obtain rfl := nt_bool n25
    have S26 := ((((((S10.grow s20).grow s21).grow s22).grow s23).grow s24).grow s25)
    refine ⟨sp.fn _ (fun q hq => S26.get (List.mem_append_left _ hq)), (sp.run (vt := []) (Kp := []) num clr t20 t23 hnum (C'.le (by decide)) S26 fun d dl h27 tk27 hf hfd hg2 S27 => ?_).out⟩
    rw [List.append_nil] at S27
    refine ret _ _ _ _ _ _ S27 ⟨d, rfl, hf, hfd, ?_⟩
    · intro P ps hm
      rcases List.mem_append.mp (show (P, tabObj ps) ∈ [(179, tabObj #[]), (165, tabObj #[])] ++ [(102, tabObj #[])] from hm) with hm | hm
      · obtain ⟨ps', h'⟩ := hg P ps hm
        exact hg2 P ps' (List.mem_append_left _ h')
      · exact hg2 P ps (List.mem_append_right _ hm)
  · rintro v h' tk' nw ⟨f, rfl, hf, hs, hg⟩ S'
    exact k f nw h' tk' hf hs hg S' 

/-- kind 16 -/
theorem xd_16 {md : Nat} (hmd : md ≤ 2) : XD prog w md 272 [(179, tabObj #[]), (165, tabObj #[])] 1 (POk true 8) := by
  refine ⟨?_⟩
  intro loose mean mg mb A A₀ env outer base h₀ h L ns vs rest gs dr tk os Q E num clr t1 t2 hnum C S k
  have S : St h₀ L h ns vs ([(179, tabObj #[]), (165, tabObj #[]), (102, tabObj #[])] ++ rest) := S
  refine call_g (cl := []) (foot := [(179, tabObj #[]), (165, tabObj #[]), (102, tabObj #[])]) (rest := rest) (args := ⟨[.int num t1, .bool (decide (0 < md)), .bool (md == 2), .int num t2, .ref 383, .bool clr], []⟩) (binds := [(Str.ofString "field_number", .int num t1), (Str.ofString "is_repeated", .bool (decide (0 < md))), (Str.ofString "is_packed", .bool (md == 2)), (Str.ofString "key", .int num t2), (Str.ofString "new_default", .ref 383), (Str.ofString "clear_if_default", .bool clr)]) (Rel := fun v nw => ∃ f, v = .ref f ∧ (∀ h : Heap, (∀ q ∈ nw, h.get? q.1 = some q.2) → FnAt f h) ∧ FD prog w md f nw num clr (vB (8 * num + 1)) (POk true 8) ∧ GT [(179, tabObj #[]), (165, tabObj #[]), (102, tabObj #[])] nw) (ns' := [Str.ofString "field_number", Str.ofString "is_repeated", Str.ofString "is_packed", Str.ofString "key", Str.ofString "new_default", Str.ofString "clear_if_default"]) (gl' := [Str.ofString "_StructPackDecoder", Str.ofString "WIRETYPE_FIXED64"]) C S (K_get C S (by k_is)) rfl (K_code C S (by k_is)) (BindsTo.of_defaults rfl (K_get C S (f := 265) (by k_is)) rfl rfl rfl) (fnEnv_ofG rfl (by decide +kernel) (by decide +kernel) (by decide +kernel) (by decide +kernel)) (vs2 := fun _ => [some (.int num 0), some (.bool (decide (0 < md))), some (.bool (md == 2)), some (.int num 0), some (.ref 383), some (.bool clr)]) (nw2 := fun L' => [(179, tabObj #[]), (165, tabObj #[]), (102, tabObj #[])]) (fun L' => (.loc .hd (.loc (.tl .hd) (.loc (.tl (.tl .hd)) (.loc (.tl (.tl (.tl .hd))) (.loc (.tl (.tl (.tl (.tl .hd)))) (.loc (.tl (.tl (.tl (.tl (.tl .hd))))) .nil))))))) ?_ ?_
  · intro g L2 h₁ tk₁ env' A' he hA C' N' S' kp Q' E' ret
    clear hA kp he
    refine x_retW (c_fnW (c_fn (a := 184) (Ev.glob N' C' S' (by k_is) (.head _) rfl) fun h2 tk2 s2 => sp_p (Ev.glob N' C' (S'.grow s2) (by k_is) (.tail _ (.head _)) rfl) fun v3 h3 tk3 n3 s3 => sp_p Ev.cstr fun v4 h4 tk4 n4 s4 => sp_n ?_))
    obtain ⟨t3, rfl⟩ := nt_int n3
    obtain ⟨t4, rfl⟩ := nt_str n4
    have S9 : St g L2 _ _ _ ([(179, tabObj #[]), (165, tabObj #[])] ++ [(102, tabObj #[])]) := (((S'.grow s2).grow s3).grow s4)
    refine ⟨fnAt_K C' S9 (by k_is), (pack_mk (wt := 1) (sz := 8) (sg := true) hmd (by decide) .q C' S9 fun f sl h10 tk10 sp hg S10 => ?_).out⟩
    refine ⟨f, rfl, sp.fn _ (fun q hq => S10.get (List.mem_append_left _ hq)), ?_⟩
    refine sp_p (Ev.loc N' S10 .hd) fun v20 h20 tk20 n20 s20 => sp_p (Ev.loc N' (S10.grow s20) (.tl .hd)) fun v21 h21 tk21 n21 s21 => sp_p (Ev.loc N' ((S10.grow s20).grow s21) (.tl (.tl .hd))) fun v22 h22 tk22 n22 s22 => sp_p (Ev.loc N' (((S10.grow s20).grow s21).grow s22) (.tl (.tl (.tl .hd)))) fun v23 h23 tk23 n23 s23 => sp_p (Ev.loc N' ((((S10.grow s20).grow s21).grow s22).grow s23) (.tl (.tl (.tl (.tl .hd))))) fun v24 h24 tk24 n24 s24 => sp_p (Ev.loc N' (((((S10.grow s20).grow s21).grow s22).grow s23).grow s24) (.tl (.tl (.tl (.tl (.tl .hd)))))) fun v25 h25 tk25 n25 s25 => sp_n ?_
    obtain ⟨t20, rfl⟩ := nt_int n20
    obtain rfl := nt_bool n21
    obtain rfl := nt_bool n22
    obtain ⟨t23, rfl⟩ := nt_int n23
    obtain rfl := nt_ref n24
    obtain rfl := nt_bool n25
    have S26 := ((((((S10.grow s20).grow s21).grow s22).grow s23).grow s24).grow s25)
    refine ⟨sp.fn _ (fun q hq => S26.get (List.mem_append_left _ hq)), (sp.run (vt := []) (Kp := []) num clr t20 t23 hnum (C'.le (by decide)) S26 fun d dl h27 tk27 hf hfd hg2 S27 => ?_).out⟩
    rw [List.append_nil] at S27
    refine ret _ _ _ _ _ _ S27 ⟨d, rfl, hf, hfd, ?_⟩
    · intro P ps hm
      rcases List.mem_append.mp (show (P, tabObj ps) ∈ [(179, tabObj #[]), (165, tabObj #[])] ++ [(102, tabObj #[])] from hm) with hm | hm
      · obtain ⟨ps', h'⟩ := hg P ps hm
        exact hg2 P ps' (List.mem_append_left _ h')
      · exact hg2 P ps (List.mem_append_right _ hm)
  · rintro v h' tk' nw ⟨f, rfl, hf, hs, hg⟩ S'
    exact k f nw h' tk' hf hs hg S' 
end
end Mine
end
section
open PySem PySem.Spec PySem.Calls PySem.W PyProof.Rows
set_option maxRecDepth 100000
set_option maxHeartbeats 4000000
set_option linter.unusedVariables false
namespace Mine
section
variable {prog : Program} {w : World} {A : Around} {E : Value → Shared → Prop} {s : Shared} {env : Env}
theorem hb_clause {e : Addr} {t : Expr} {b₀ : Stmt} {suite : List Stmt} {pos : Pos} {rest : List ExceptHandler} {Q : Flow → Shared → Prop} (b : Bool)
    (h : wpAny (model prog w) (A.mark (some (.ref e))) (eval t env) (fun c s₁ => (∀ (A' : Around) (Q' : Bool → Shared → Prop) (E' : Value → Shared → Prop), Q' b s₁ → wpAny (model prog w) A' (excMatches (.ref e) c) Q' E' s₁) ∧
      if b then wpAny (model prog w) (A.mark (some (.ref e))) (setFlight (.ref e) none) (fun _ s₂ => wpAny (model prog w) (A.mark (some (.ref e))) (execs (b₀ :: suite) env) Q (notedBy (model prog w) (A.mark (some (.ref e))) env (cameBackBy (model prog w) A env E)) s₂) (notedBy (model prog w) (A.mark (some (.ref e))) env (cameBackBy (model prog w) A env E)) s₁
      else wpAny (model prog w) A (handleBy (.ref e) env rest) Q E s₁) (notedBy (model prog w) (A.mark (some (.ref e))) env (cameBackBy (model prog w) A env E)) s) :
    wpAny (model prog w) A (handleBy (.ref e) env (.ExceptHandler (some t) none (b₀ :: suite) pos :: rest)) Q E s := by
  refine wpAny_handleBy_cons (codeAny_handlers_test (wpAny_mono h (fun c s₁ h₁ => ?_) fun _ _ y => y)) (by intro q; cases q)
  obtain ⟨hm, hk⟩ := h₁
  refine hm _ _ _ ?_
  cases b with
  | true => exact codeAny_handlers_suite hk
  | false => exact hk
end
section
variable {M : Model} {A : Around} {E : Value → Shared → Prop}
variable {nm q : Str} {C N : Addr} {bs bm : List Value} {hdct : Bool} {sn : List Str} {sub : List Value} {ab : Bool} {col : Option Bool} {dd : Option Addr} {k0 k1 k2 k3 k5 : Option Value} {newId : String}
variable {nm' q' : Str} {C' N' : Addr} {bs' bm' : List Value} {hdct' : Bool} {sn' : List Str} {sub' : List Value} {ab' : Bool} {col' : Option Bool} {dd' : Option Addr} {k0' k1' k2' k3' k5' : Option Value} {newId' : String}
theorem em_other {h : Heap} {g : Array GenState} {d : Drawn} {t : Nat} {os : OsState} {e : Addr} {oe : Obj} {Q : Bool → Shared → Prop}
    (hC : h.get? C = some (excClassObj nm q C N bs bm hdct sn sub ab col dd k0 k1 k2 k3 k5 newId)) (hC' : h.get? C' = some (excClassObj nm' q' C' N' bs' bm' hdct' sn' sub' ab' col' dd' k0' k1' k2' k3' k5' newId')) (he : h.get? e = some oe) (hcls : oe.cls = .ref C) (hbase : bm'.contains (.type "BaseException") = true)
    (hne : (Value.ref C :: bm).contains (.ref C') = false)
    (hq : Q false ⟨h, g, d, t, os⟩) : wpAny M A (excMatches (.ref e) (.ref C')) Q E ⟨h, g, d, t, os⟩ := by
  have hcB : (Value.ref C' :: bm').contains (.type "BaseException") = true := by rw [List.contains_cons, hbase, Bool.or_true]
  have f := tc_notTuple
  unfold excMatches
  repeat (first | (with_reducible refine wpAny_loadPart_at he ?_; rw [hcls]) | with_reducible refine wpAny_loadPart_at hC' ?_ | (with_reducible refine wpAny_isSubtype_exc hC' ?_; rw [hcB]) | (with_reducible refine wpAny_isSubtype_exc hC ?_; rw [hne]) | wp_step)
  exact hq
end
end Mine
end
section
open PySem PySem.Spec PySem.Calls PySem.W PyProof.Rows
open LCg (NsObj ns_obj fr_but)
set_option maxRecDepth 100000
set_option maxHeartbeats 4000000
set_option linter.unusedVariables false
namespace Mine

section
variable {prog : Program} {w : World} {loose : List Str} {mean : ExcName → Option Value} {mg mb : Str → Option Value} {A A₀ : Around} {env cenv : Env} {outer : List Env} {base h₀ h : Heap} {L D : Addr} {lv : Nat} {ns gl : List Str} {vs vs1 vs2 : List (Option Value)} {news nw foot rest dl tl Kp cl : List (Addr × Obj)} {x y n1 n2 : Str} {v u : Value} {p p1 p2 p3 p4 p' np cpos : Pos} {kk : Nat}
variable {gs : Array GenState} {dr : Drawn} {tk : Nat} {os : OsState} {Q E : Value → Shared → Prop} {QF : Flow → Shared → Prop} {e e1 e2 i o a b : Expr} {pos : Pos} {elts : List Expr} {rst : List Stmt} {s : Shared}

/-- how a decoder's call may end -/
def DEC (prog : Program) (w : World) (d : Addr) (buf : Array UInt8) (first fin : Int) (D : Addr) (foot cl : List (Addr × Obj)) (Rel : Value → List (Addr × Obj) → Prop) (RelE : List (Addr × Obj) → Prop) : Prop :=
  ∀ {loose : List Str} {mean : ExcName → Option Value} {mg mb : Str → Option Value} {A A₀ : Around} {env : Env} {outer : List Env} {base h₀ h : Heap} {L : Addr} {ns : List Str} {vs : List (Option Value)} {rest Kp : List (Addr × Obj)}
    {gs : Array GenState} {dr : Drawn} {tk : Nat} {os : OsState} {Q E : Value → Shared → Prop} (tb tp te : Tok),
    Cx w loose mean mg mb A env outer A₀ base h₀ L 8 → St h₀ L h ns vs (foot ++ rest) → Kx base h₀ outer Kp → Stand cl foot h →
    (∀ v h' tk' nw, Rel v nw → St h₀ L h' ns vs (nw ++ rest) → Q v ⟨h', gs, dr, tk', os⟩) →
    (∀ e g₂ m h' tk' nwE, FrE h₀ L g₂ m (nwE ++ rest) → RelE nwE → RX base g₂ (env :: outer) e (nwE ++ (rest ++ Kp)) h' → E (.ref e) ⟨h', gs, dr, tk', os⟩) →
    WP prog w A (PySem.call (.ref d) [.bytes buf tb, .int first tp, .int fin te, .none, .ref D]) Q E ⟨h, gs, dr, tk, os⟩

theorem n_glob {A' : Around} (N : FnEnv env L ns gl) (X : (hd.heap_39 w.params).In h) (T : Top topProg loose mean mg mb h) (e : nsIn (hd.heap_39 w.params) mainGlobals x = some (some v)) (hx : x ∈ gl) (q : Q v ⟨h, gs, dr, tk, os⟩) : wpAny (model prog w) A' (eval (.Name x p) env) Q E ⟨h, gs, dr, tk, os⟩ :=
  Name_function_global N.kind (N.glo x hx) (loadGlobal_global (N.globals ▸ T.g) (mg_of X T.g e) q) (N.dbg x (List.mem_append_right _ hx))
theorem n_bi {A' : Around} (N : FnEnv env L ns gl) (X : (hd.heap_39 w.params).In h) (T : Top topProg loose mean mg mb h) (e : nsIn (hd.heap_39 w.params) mainGlobals x = some none) (hx : x ∈ gl) (hv : bootBuiltins x = some v) (hn : x ≠ "__name__") (q : Q v ⟨h, gs, dr, tk, os⟩) : wpAny (model prog w) A' (eval (.Name x p) env) Q E ⟨h, gs, dr, tk, os⟩ :=
  Name_function_global N.kind (N.glo x hx) (loadGlobal_builtin (N.globals ▸ T.g) (mg_none_of X T.g e) (N.builtins ▸ T.b) ((T.builtins x hn).trans hv) q) (N.dbg x (List.mem_append_right _ hx))

/-- a call that catches what comes -/
theorem call_gt {ns' gl' : List Str} {name qual : Str} {params : Arguments} {body : List Stmt} {scope : Scope} {clo : List (Str × Addr)} {dV kV doc pm cdv ct : Value} {an : Option Addr} {fo : Obj} {f : Addr} {args : Args} {binds : List (Str × Value)} {Rel : Value → List (Addr × Obj) → Prop}
    (C : Cx w loose mean mg mb A env outer A₀ base h₀ L (lv + 1)) (S : St h₀ L h ns vs (foot ++ rest)) (kx : Kx base h₀ outer Kp)
    (ho : h.get? f = some fo) (hdat : fo.data = .func (fnX name qual params body scope clo dV kV doc pm an cdv ct)) (hcd : h.CodeRec cdv qual)
    (hbind : BindsTo ⟨h, gs, dr, tk, os⟩ (fnX name qual params body scope clo dV kV doc pm an cdv ct) args binds)
    (hfe : ∀ L', FnEnv (envG qual scope L' f cdv clo) L' ns' gl') {vs2 : Addr → List (Option Value)} {nw2 : Addr → List (Addr × Obj)}
    (hB : ∀ L', Bd (envG qual scope L' f cdv clo) ns' binds (ns'.map fun _ => none) (cellLed (L' + 1) (nones scope.names) ++ foot) (vs2 L') (nw2 L'))
    (hb : ∀ g L' h₁ tk₁ env' A', env' = envG qual scope L' f cdv clo → A' = A.deeper env' → Cx w loose mean mg mb A' env' (env :: outer) A base g L' lv → FnEnv env' L' ns' gl' → St g L' h₁ ns' (vs2 L') (nw2 L') →
      (∀ b o, b ∉ foot.map (·.1) → h.get? b = some o → g.get? b = some o) → Kx base g (env :: outer) (rest ++ Kp) → ∀ Q' E', Ret g L' gs dr os Rel Q' → (∀ v s, Q v s → Q' (.ret v) s) → WP prog w A' (execs body env') Q' E' ⟨h₁, gs, dr, tk₁, os⟩)
    (k : ∀ v h' tk' news', Rel v news' → St h₀ L h' ns vs (news' ++ rest) → Q v ⟨h', gs, dr, tk', os⟩)
    (hco : scope.isCoroutine = false := by rfl) (hgen : scope.isGenerator = false := by rfl) (hk : scope.kind = .function := by rfl) :
    WP prog w A (PySem.call (.ref f) args.pos args.kw) Q E ⟨h, gs, dr, tk, os⟩ := by
  obtain ⟨m, F, hm⟩ := S.fr
  have N1 : News h₀ L h foot := fun p hp => S.nw p (List.mem_append_left _ hp)
  obtain ⟨FG, BG, st, _⟩ := groundX (s := ⟨h, gs, dr, tk, os⟩) (R := fun _ _ => True) C.below F N1 C.frames C.frame C.kind
  have nd := S.nd
  rw [List.map_append, List.nodup_append] at nd
  have kx' : Kx base (hideAll h (foot.map (·.1))) (env :: outer) (rest ++ Kp) := fun q hq => by
    rcases List.mem_append.mp hq with hq | hq
    · have n := S.nw q (List.mem_append.mpr (.inr hq))
      refine ⟨hideAll_get _ n.1 fun hm => nd.2.2 q.1 hm q.1 (List.mem_map_of_mem hq) rfl, fresh_of_stays C.below.stays n.2.2, fun hm => ?_⟩
      obtain ⟨en, he, hfe⟩ := List.mem_filterMap.mp hm
      rcases List.mem_cons.mp he with rfl | he
      · exact n.2.1 (Option.some.inj (hfe.symm.trans C.frame))
      · obtain ⟨o, ho, _⟩ := (C.below.frames.mem (List.mem_filterMap.mpr ⟨en, he, hfe⟩)).2
        rw [n.2.2] at ho; cases ho
    · obtain ⟨k1, k2, k3⟩ := kx q hq
      refine ⟨st _ _ k1, k2, fun hm => ?_⟩
      obtain ⟨en, he, hfe⟩ := List.mem_filterMap.mp hm
      rcases List.mem_cons.mp he with rfl | he
      · have : q.1 = L := Option.some.inj (hfe.symm.trans C.frame)
        have l := Heap.lt_size k1
        rw [this] at l
        exact absurd (Nat.lt_of_lt_of_le l F.above) (Nat.lt_irrefl _)
      · exact k3 (List.mem_filterMap.mpr ⟨en, he, hfe⟩)
  apply WP.mk
  with_reducible refine wpAny_call ?_
  refine codeAny_call_function (fd := fnX name qual params body scope clo dV kV doc pm an cdv ct) (by have := C.depth; unfold recursionLimit; omega) ho hdat hco hgen rfl hcd (hbind _ _ _ _ ?_)
  refine (newEnvG (prog := prog) (w := w) (ns := ns') (gl := gl') hk foot (fun p hp => (N1 p hp).1) nd.1 (hfe _) (hB _) fun h₁ tk₁ Sb kb => ?_).out
  refine ⟨?_, codeAny_func ?_⟩
  · have z := (C.T.nolimit.keeps st)
    exact Sb.elim fun m' F' _ => z.keeps F'.keep
  have Cb : Cx w loose mean mg mb (A.deeper (envG qual scope h.objs.size f cdv clo)) (envG qual scope h.objs.size f cdv clo) (env :: outer) A base (hideAll h (foot.map (·.1))) h.objs.size lv :=
    { below := BG, frames := Around.frames_deeper C.frames, frame := rfl, kind := hk, X := C.X.keeps st, T := C.T.keeps st, hand := C.hand,
      depth := by have := C.depth; show A.depth + 1 + lv ≤ 330; omega, units := by have := C.units; show A.units + 3 + 20 * lv ≤ 8000; omega }
  have body := (hb _ _ h₁ tk₁ _ _ rfl rfl Cb (hfe _) Sb (fun b o hb e => hideAll_get _ e hb) kx' (RetQ Q) (fun e s' => wpAny (model prog w) (A.deeper (envG qual scope h.objs.size f cdv clo)) (leaving (envG qual scope h.objs.size f cdv clo) e) (fun _ s'' => E e s'') (fun e' s'' => E e' s'') s')
    (fun v h' tk' ns2 vs2 news' S' R => k v h' tk' news' R (S'.ret F hm S.nw S.nd rfl)) (fun v s h => h)).out
  refine wpAny_mono body (fun fl s' hq => ?_) (fun _ _ x => x)
  cases fl <;> first | exact hq | exact hq.elim

/-- _law_read -/
theorem read_ok {d : Addr} {buf : Array UInt8} {first fin : Int} {Rel : Value → List (Addr × Obj) → Prop} {RelE : List (Addr × Obj) → Prop} {tb tp te : Tok} (dec : DEC prog w d buf first fin D foot cl Rel RelE) (fa : ∀ h : Heap, (∀ q ∈ cl, h.get? q.1 = some q.2) → FnAt d h)
    (C : Cx w loose mean mg mb A env [] A₀ base base L (8 + 1)) (S : St base L h ns vs (foot ++ rest)) (hcl : ∀ q ∈ cl, q ∈ rest)
    (k : ∀ v h' tk' nw, Rel v nw → St base L h' ns vs (nw ++ rest) → Q v ⟨h', gs, dr, tk', os⟩)
    (kC : ∀ t h' tk' nwE, RelE nwE → St base L h' ns vs (nwE ++ rest) → Q (.int (-1) t) ⟨h', gs, dr, tk', os⟩) :
    WP prog w A (PySem.call (.ref 397) [.ref d, .bytes buf tb, .int first tp, .int fin te, .ref D]) Q E ⟨h, gs, dr, tk, os⟩ := by
  refine call_gt (clo := []) (foot := foot) (rest := rest) (args := ⟨[.ref d, .bytes buf tb, .int first tp, .int fin te, .ref D], []⟩) (binds := [(Str.ofString "decode", .ref d), (Str.ofString "buffer", .bytes buf tb), (Str.ofString "first", .int first tp), (Str.ofString "last", .int fin te), (Str.ofString "table", .ref D)]) (Rel := Rel) (ns' := [Str.ofString "decode", Str.ofString "buffer", Str.ofString "first", Str.ofString "last", Str.ofString "table"]) (gl' := [Str.ofString "IndexError", Str.ofString "DecodeError", Str.ofString "StructError"]) C S (show Kx base base [] [] from fun q hq => nomatch hq) (K_get C S (by k_is)) rfl (K_code C S (by k_is)) (BindsTo.of_eq rfl) (fnEnv_ofG rfl (by decide +kernel) (by decide +kernel) (by decide +kernel) (by decide +kernel)) (vs2 := fun _ => [some (.ref d), some (.bytes buf 0), some (.int first 0), some (.int fin 0), some (.ref D)]) (nw2 := fun L' => foot) (fun L' => (.loc .hd (.loc (.tl .hd) (.loc (.tl (.tl .hd)) (.loc (.tl (.tl (.tl .hd))) (.loc (.tl (.tl (.tl (.tl .hd)))) .nil)))))) ?_ ?_
  · intro g L' h₁ tk₁ env' A' he hA C' N' S' kp kx' Q' E' ret hc
    clear hA
    have hstg : ∀ q ∈ cl, g.get? q.1 = some q.2 ∧ ∀ r ∈ foot, r.1 ≠ q.1 := fun q hq => by
      have nd := S.nd
      rw [List.map_append, List.nodup_append] at nd
      have hd : ∀ r ∈ foot, r.1 ≠ q.1 := fun r hr e => nd.2.2 r.1 (List.mem_map_of_mem hr) q.1 (List.mem_map_of_mem (hcl q hq)) e
      refine ⟨kp q.1 q.2 (fun hm => ?_) (S.get (List.mem_append_right _ (hcl q hq))), hd⟩
      obtain ⟨r, hr, e⟩ := List.mem_map.mp hm
      exact hd r hr e
    refine x_cons (.mk (wpAny_Try_except ?_))
    refine (x_retW (c_fn (a := d) (Ev.loc N' S' .hd) fun h2 tk2 s2 => sp_p ((Ev.loc N' S' (.tl .hd)).grow s2) fun v3 h3 tk3 n3 s3 => sp_p (((Ev.loc N' S' (.tl (.tl .hd))).grow s2).grow s3) fun v4 h4 tk4 n4 s4 => sp_p ((((Ev.loc N' S' (.tl (.tl (.tl .hd)))).grow s2).grow s3).grow s4) fun v5 h5 tk5 n5 s5 => sp_p Ev.cnone fun v6 h6 tk6 n6 s6 => sp_p ((((((Ev.loc N' S' (.tl (.tl (.tl (.tl .hd))))).grow s2).grow s3).grow s4).grow s5).grow s6) fun v7 h7 tk7 n7 s7 => sp_n ?_)).out
    obtain ⟨t3, rfl⟩ := nt_bytes n3
    obtain ⟨t4, rfl⟩ := nt_int n4
    obtain ⟨t5, rfl⟩ := nt_int n5
    obtain rfl := nt_none n6
    obtain rfl := nt_ref n7
    have S7 := (((((S'.grow s2).grow s3).grow s4).grow s5).grow s6).grow s7
    refine ⟨fa _ (fun q hq => S7.keep (hstg q hq).1), (dec t3 t4 t5 C' (St.an S7) kx' (fun q hq => ⟨S7.keep (hstg q hq).1, (hstg q hq).2⟩) (fun v h8 tk8 nw hr S8 => ?_) (fun e g₂ m₂ h8 tk8 nwE F hr R => ?_)).out⟩
    · rw [List.append_nil] at S8
      exact ret _ _ _ _ _ _ S8 hr
    · have F := F.nil
      obtain ⟨⟨cls, hcls, B, a0, hB, hl, hfl⟩, hsm⟩ := R
      refine wpAny_looks_onW C'.frames C'.frame hfl fun h₄ hheld₄ hsm₄ => ?_
      refine wpAny_landsW hheld₄ fun h₅ hfl₅ hsm₅ => ?_
      have st5 : base.StaysIn h₅ := fun b o e => hfl₅.1 _ _ (hB _ _ e)
      have X₅ := C.X.keeps st5
      have T₅ := C.T.keeps st5
      obtain ⟨ob, hob, hobc⟩ := hfl₅.there
      have fin : ∀ {p1 p2 p3 : Pos} {kd : Nat} {tk : Nat} {E2 : Value → Shared → Prop}, wpAny (model prog w) (A'.mark (some (.ref e))) (setFlight (.ref e) none) (fun _ s₂ => wpAny (model prog w) (A'.mark (some (.ref e))) (execs [.Return (some (.UnaryOp .USub (.Constant (.int 1) kd p1) p2)) p3] env') (Nx prog w A' [] env' Q' E') E2 s₂) E2 ⟨h₅, gs, dr, tk, os⟩ := by
        intro p1 p2 p3 kd tk E2
        refine lands_againW hfl₅ fun h₆ hfl₆ hsm₆ => ?_
        refine (x_ret (Ev.neg Ev.int) fun v h₇ tk₇ n₇ s₇ => ?_).out
        obtain ⟨t₇, rfl⟩ := nt_int n₇
        refine hc _ _ (kC t₇ h₇ tk₇ nwE hr ?_)
        obtain ⟨m, F0, hm⟩ := S.fr
        obtain ⟨oL, es, ep, hL, hLd, hLk, hLf⟩ := F0.ns
        have nL : L ∉ foot.map (·.1) := fun q => by
          obtain ⟨p, hp, e⟩ := List.mem_map.mp q
          exact (S.nw p (List.mem_append_left _ hp)).2.1 e
        have hLg := kp L oL nL hL
        have n2 : g₂.Ns L m := ⟨oL, es, ep, F.fr.keep L oL hLg, hLd, hLk, hLf⟩
        have nd := S.nd
        rw [List.map_append, List.nodup_append] at nd
        have hrg : ∀ q ∈ rest, g.get? q.1 = some q.2 := fun q hq => kp q.1 q.2 (fun hm => nd.2.2 q.1 hm q.1 (List.mem_map_of_mem hq) rfl) (S.get (List.mem_append_right _ hq))
        have hK : ∀ q ∈ nwE ++ rest, q ∈ nwE ++ ([] ++ (rest ++ [])) := fun q hq => by simpa using hq
        refine ⟨⟨m, ⟨((hsm₆.ns (hsm₅.ns (hsm₄.ns (hsm.ns n2)))).keeps s₇), fun b o e => s₇ _ _ (hfl₆.1 _ _ (hB _ _ e)), F0.above⟩, hm⟩, fun q hq => ?_, ?_⟩
        · have z := hl q (hK q hq)
          refine ⟨s₇ _ _ (hfl₆.1 _ _ z.1), ?_, z.2⟩
          rcases List.mem_append.mp hq with hq | hq
          · intro e
            have y := (F.fresh q hq).2
            rw [e, hLg] at y; cases y
          · exact (S.nw q (List.mem_append_right _ hq)).2.1
        · rw [List.map_append, List.nodup_append]
          refine ⟨F.nd, nd.2.1, fun a ha b hb e => ?_⟩
          subst e
          obtain ⟨p, hp, rfl⟩ := List.mem_map.mp ha
          obtain ⟨q, hq, e⟩ := List.mem_map.mp hb
          have y := (F.fresh p hp).2
          rw [← e, hrg q hq] at y; cases y
      rcases hcls with rfl | rfl | rfl
      · refine hb_clause true (n_bi N' X₅ T₅ (by k_is) (.head _) (v := .type "IndexError") (by decide +kernel) (by decide) ⟨fun A2 Q2 E2 q => wpAny_excMatches_type (X := "IndexError") ⟨ob, hob, hobc⟩ (by rw [isSubtype_type]; kernel_rfl) (by rw [isSubtype_type]; kernel_rfl) (by rw [isSubtype_type]; kernel_rfl) q, ?_⟩)
        exact fin
      · have h37 := X₅ 37 _ (by k_is)
        refine hb_clause false (n_bi N' X₅ T₅ (by k_is) (.head _) (v := .type "IndexError") (by decide +kernel) (by decide) ⟨fun A2 Q2 E2 q => wpAny_excMatches_sub_type h37 hob hobc (by rw [isSubtype_type]; kernel_rfl) (by rw [isSubtype_type]; kernel_rfl) q, ?_⟩)
        refine hb_clause true (n_glob N' X₅ T₅ (by k_is) (.tail _ (.head _)) ⟨fun A2 Q2 E2 q => wpAny_excMatches_sub_self h37 hob hobc rfl q, ?_⟩)
        exact fin
      · have h37 := X₅ 37 _ (by k_is)
        have h61 := X₅ 61 _ (by k_is)
        refine hb_clause false (n_bi N' X₅ T₅ (by k_is) (.head _) (v := .type "IndexError") (by decide +kernel) (by decide) ⟨fun A2 Q2 E2 q => wpAny_excMatches_sub_type h61 hob hobc (by rw [isSubtype_type]; kernel_rfl) (by rw [isSubtype_type]; kernel_rfl) q, ?_⟩)
        refine hb_clause false (n_glob N' X₅ T₅ (by k_is) (.tail _ (.head _)) ⟨fun A2 Q2 E2 q => em_other h61 h37 hob hobc rfl rfl q, ?_⟩)
        refine hb_clause true (n_glob N' X₅ T₅ (by k_is) (.tail _ (.tail _ (.head _))) ⟨fun A2 Q2 E2 q => wpAny_excMatches_sub_self h61 hob hobc rfl q, ?_⟩)
        exact fin
  · intro v h' tk' nw hr S2
    exact k v h' tk' nw hr S2
end
end Mine
end
section
open PySem PySem.Spec PySem.Calls PySem.W PyProof.Rows
open LCg (NsObj ns_obj fr_but)
set_option maxRecDepth 100000
set_option maxHeartbeats 4000000
set_option linter.unusedVariables false
namespace Mine

section
variable {prog : Program} {w : World} {loose : List Str} {mean : ExcName → Option Value} {mg mb : Str → Option Value} {A A₀ : Around} {env cenv : Env} {outer : List Env} {base h₀ h : Heap} {L D : Addr} {lv : Nat} {ns gl : List Str} {vs vs1 vs2 : List (Option Value)} {news nw foot rest dl tl Kp cl : List (Addr × Obj)} {x y n1 n2 : Str} {v u : Value} {p p1 p2 p3 p4 p' np cpos : Pos} {kk : Nat}
variable {gs : Array GenState} {dr : Drawn} {tk : Nat} {os : OsState} {Q E : Value → Shared → Prop} {QF : Flow → Shared → Prop} {e e1 e2 i o a b : Expr} {pos : Pos} {elts : List Expr} {rst : List Stmt} {s : Shared}

theorem leV_cons (b : UInt8) (r : List UInt8) : leV (b :: r) = leV r * 256 + b.toNat := rfl
theorem leB_map (k n : Nat) : leB k n = (List.range k).map fun i => ((n / 2 ^ (8 * i) % 256 : Nat)).toUInt8 := by
  unfold leB leI
  rw [List.map_map]
  apply List.map_congr_left
  intro i _
  show ((((n / 2 ^ (8 * i) % 256 : Nat) : Int)).toNat).toUInt8 = _
  rw [Int.toNat_natCast]
theorem leB_len (k n : Nat) : (leB k n).length = k := by rw [leB_map]; simp
theorem leV_leB (k : Nat) : ∀ n : Nat, n < 256 ^ k → leV (leB k n) = n := by
  induction k with
  | zero => intro n hn; simp at hn; subst hn; rfl
  | succ k ih =>
    intro n hn
    have e : leB (k + 1) n = (n % 256).toUInt8 :: leB k (n / 256) := by
      rw [leB_map, leB_map, List.range_succ_eq_map, List.map_cons, List.map_map]
      congr 1
      · simp
      · apply List.map_congr_left
        intro i _
        simp only [Function.comp]
        have : n / 2 ^ (8 * (i + 1)) = n / 256 / 2 ^ (8 * i) := by
          rw [Nat.div_div_eq_div_mul]
          congr 1
          rw [Nat.mul_add, Nat.pow_add, Nat.mul_comm]
        rw [this]
    rw [e, leV_cons, ih (n / 256) (by rw [Nat.pow_succ] at hn; omega), u8 (Nat.mod_lt _ (by decide))]
    omega
theorem fval_leB {sz : Nat} {n : Int} (hs : sz = 4 ∨ sz = 8) (sg : Bool) (h : if sg then -2 ^ (8 * sz - 1) ≤ n ∧ n < 2 ^ (8 * sz - 1) else 0 ≤ n ∧ n < 2 ^ (8 * sz)) : fval sg sz (leB sz (n % 2 ^ (8 * sz)).toNat) = n := by
  have hb : (n % 2 ^ (8 * sz)).toNat < 256 ^ sz := by
    rcases hs with rfl | rfl
    · have := Int.emod_lt_of_pos n (b := 2 ^ (8 * 4)) (by decide)
      have := Int.emod_nonneg n (b := 2 ^ (8 * 4)) (by decide)
      simp only [Nat.reduceMul, Nat.reducePow, Int.reducePow] at *
      omega
    · have := Int.emod_lt_of_pos n (b := 2 ^ (8 * 8)) (by decide)
      have := Int.emod_nonneg n (b := 2 ^ (8 * 8)) (by decide)
      simp only [Nat.reduceMul, Nat.reducePow, Int.reducePow] at *
      omega
  unfold fval
  rw [leV_leB _ _ hb]
  cases sg with
  | false =>
    simp only [Bool.false_eq_true, false_and, if_false] at h ⊢
    rw [Int.emod_eq_of_lt h.1 h.2]
    omega
  | true =>
    simp only [true_and, if_true] at h ⊢
    rcases hs with rfl | rfl
    · simp only [Nat.reduceMul, Nat.reduceSub, Int.reducePow, Nat.reducePow] at h ⊢
      split <;> omega
    · simp only [Nat.reduceMul, Nat.reduceSub, Int.reducePow, Nat.reducePow] at h ⊢
      split <;> omega

theorem FD.ok {md : Nat} {d : Addr} {cl : List (Addr × Obj)} {key : Int} {clr : Bool} {tag : List UInt8} {Ok Ok' : List UInt8 → Value → Prop} (hmd : md ≤ 2) (q : FD prog w md d cl key clr tag Ok) (hl : ∀ o v, Ok' o v → Ok o v) : FD prog w md d cl key clr tag Ok' := by
  match md, hmd, q with
  | 0, _, q =>
    intro loose mean mg mb A A₀ env outer base h₀ h L ns vs vt rest Kp gs dr tk os Q E full pre post oc dt val fin D od kvs tb tp te C S V kx hst hod hkv lo ok
    exact q full pre post oc dt val fin D od kvs tb tp te C S V kx hst hod hkv lo (hl _ _ ok)
  | 1, _, q =>
    intro loose mean mg mb A A₀ env outer base h₀ h L ns vs vt rest Kp gs dr tk os Q E full pre post dt pieces fin D its tl tb tp te C S V kx hst Tl lo' hne hpc
    exact q full pre post dt pieces fin D its tl tb tp te C S V kx hst Tl lo' hne fun p hp => ⟨hl _ _ (hpc p hp).1, (hpc p hp).2⟩
  | 2, _, q =>
    intro loose mean mg mb A A₀ env outer base h₀ h L ns vs vt rest Kp gs dr tk os Q E full pre post dt lo raw pieces fin D its tl tb tp te C S V kx hst Tl lo' hpc
    exact q full pre post dt lo raw pieces fin D its tl tb tp te C S V kx hst Tl lo' fun p hp => ⟨hl _ _ (hpc p hp).1, (hpc p hp).2⟩
theorem FD.more {md : Nat} {d : Addr} {cl cl' : List (Addr × Obj)} {key : Int} {clr : Bool} {tag : List UInt8} {Ok : List UInt8 → Value → Prop} (hmd : md ≤ 2) (q : FD prog w md d cl key clr tag Ok) : FD prog w md d (cl ++ cl') key clr tag Ok := by
  match md, hmd, q with
  | 0, _, q =>
    intro loose mean mg mb A A₀ env outer base h₀ h L ns vs vt rest Kp gs dr tk os Q E full pre post oc dt val fin D od kvs tb tp te C S V kx hst
    exact q full pre post oc dt val fin D od kvs tb tp te C S V kx fun q hq => hst q (List.mem_append_left _ hq)
  | 1, _, q =>
    intro loose mean mg mb A A₀ env outer base h₀ h L ns vs vt rest Kp gs dr tk os Q E full pre post dt pieces fin D its tl tb tp te C S V kx hst
    exact q full pre post dt pieces fin D its tl tb tp te C S V kx fun q hq => hst q (List.mem_append_left _ hq)
  | 2, _, q =>
    intro loose mean mg mb A A₀ env outer base h₀ h L ns vs vt rest Kp gs dr tk os Q E full pre post dt lo raw pieces fin D its tl tb tp te C S V kx hst
    exact q full pre post dt lo raw pieces fin D its tl tb tp te C S V kx fun q hq => hst q (List.mem_append_left _ hq)

theorem gd_num {k b : Int} {v : Value} {os : List UInt8} (h : Good k b v os) (hv : isV k) : ∃ raw, VOct os raw ∧ os.length ≤ 10 ∧ CV k v raw := by
  rcases h with h | h
  · exact h
  · exact absurd hv h.1
theorem gd_raw {k b : Int} {v : Value} {os : List UInt8} (h : Good k b v os) (hv : ¬ isV k) : VOk k b v ∧ BOk k v os := by
  rcases h with ⟨_, _, _, h⟩ | h
  · exact absurd h.isV hv
  · exact h.2
theorem gd3 : ∀ o v, Good 3 64 v o → VOk2 (sgn 64) o v := fun o v h => by
  obtain ⟨raw, a, b, c⟩ := gd_num h (by simp [isV])
  cases c; exact ⟨raw, a, b, rfl⟩
theorem gd4 : ∀ o v, Good 4 64 v o → VOk2 (fun raw => ((raw % 2 ^ 64 : Nat) : Int)) o v := fun o v h => by
  obtain ⟨raw, a, b, c⟩ := gd_num h (by simp [isV])
  cases c; exact ⟨raw, a, b, rfl⟩
theorem gd5 : ∀ o v, Good 5 32 v o → VOk2 (sgn 32) o v := fun o v h => by
  obtain ⟨raw, a, b, c⟩ := gd_num h (by simp [isV])
  cases c; exact ⟨raw, a, b, rfl⟩
theorem gd13 : ∀ o v, Good 13 32 v o → VOk2 (fun raw => ((raw % 2 ^ 32 : Nat) : Int)) o v := fun o v h => by
  obtain ⟨raw, a, b, c⟩ := gd_num h (by simp [isV])
  cases c; exact ⟨raw, a, b, rfl⟩
theorem gd17 : ∀ o v, Good 17 32 v o → MOk 32 (fun n => .int (zz n) 0) o v := fun o v h => by
  obtain ⟨raw, a, b, c⟩ := gd_num h (by simp [isV])
  cases c; exact ⟨raw, a, b, rfl⟩
theorem gd18 : ∀ o v, Good 18 64 v o → MOk 64 (fun n => .int (zz n) 0) o v := fun o v h => by
  obtain ⟨raw, a, b, c⟩ := gd_num h (by simp [isV])
  cases c; exact ⟨raw, a, b, rfl⟩
theorem gd8 : ∀ o v, Good 8 1 v o → MOk 64 (fun n => .bool (n != 0)) o v := fun o v h => by
  obtain ⟨raw, a, b, c⟩ := gd_num h (by simp [isV])
  cases c; exact ⟨raw, a, b, rfl⟩
theorem gd9 : ∀ o v, Good 9 0 v o → LOk SP o v := fun o v h => by
  obtain ⟨a, b⟩ := gd_raw h (by simp [isV])
  cases b with
  | str q => exact ⟨_, rfl, by have := q.len; omega, _, q, rfl⟩
  | zz q => omega
  | f4 q => omega
  | f8 q => omega
  | var q => omega
theorem gd12 : ∀ o v, Good 12 0 v o → LOk BP o v := fun o v h => by
  obtain ⟨a, b⟩ := gd_raw h (by simp [isV])
  cases b with
  | @byt bs t q => exact ⟨bs.toList, by simp, by simp; omega, by show Value.bytes bs 0 = _; simp⟩
  | zz q => omega
  | f4 q => omega
  | f8 q => omega
  | var q => omega
theorem gd7 : ∀ o v, Good 7 32 v o → POk false 4 o v := fun o v h => by
  obtain ⟨a, b⟩ := gd_raw h (by simp [isV])
  cases b with
  | @f4 _ n t q =>
    refine ⟨leB_len _ _, ?_⟩
    have hn : 0 ≤ n ∧ n < 2 ^ 32 := by
      cases a with
      | sig q2 => unfold isS at q2; omega
      | @uns _ _ _ b q2 hb h0 h1 =>
        exact ⟨h0, h1⟩
    show Value.int n 0 = _
    rw [fval_leB (.inl rfl) false (by simpa using hn)]
  | zz q => omega
  | f8 q => omega
  | var q => omega
theorem gd6 : ∀ o v, Good 6 64 v o → POk false 8 o v := fun o v h => by
  obtain ⟨a, b⟩ := gd_raw h (by simp [isV])
  cases b with
  | @f8 _ n t q =>
    refine ⟨leB_len _ _, ?_⟩
    have hn : 0 ≤ n ∧ n < 2 ^ 64 := by
      cases a with
      | sig q2 => unfold isS at q2; omega
      | @uns _ _ _ b q2 hb h0 h1 =>
        exact ⟨h0, h1⟩
    show Value.int n 0 = _
    rw [fval_leB (.inr rfl) false (by simpa using hn)]
  | zz q => omega
  | f4 q => omega
  | var q => omega
theorem gd15 : ∀ o v, Good 15 32 v o → POk true 4 o v := fun o v h => by
  obtain ⟨a, b⟩ := gd_raw h (by simp [isV])
  cases b with
  | @f4 _ n t q =>
    refine ⟨leB_len _ _, ?_⟩
    have hn : -2 ^ 31 ≤ n ∧ n < 2 ^ 31 := by
      cases a with
      | uns q2 => unfold isU at q2; omega
      | @sig _ _ _ b q2 hb h0 h1 =>
        exact ⟨h0, h1⟩
    show Value.int n 0 = _
    rw [fval_leB (.inl rfl) true (by simpa using hn)]
  | zz q => omega
  | f8 q => omega
  | var q => omega
theorem gd16 : ∀ o v, Good 16 64 v o → POk true 8 o v := fun o v h => by
  obtain ⟨a, b⟩ := gd_raw h (by simp [isV])
  cases b with
  | @f8 _ n t q =>
    refine ⟨leB_len _ _, ?_⟩
    have hn : -2 ^ 63 ≤ n ∧ n < 2 ^ 63 := by
      cases a with
      | uns q2 => unfold isU at q2; omega
      | @sig _ _ _ b q2 hb h0 h1 =>
        exact ⟨h0, h1⟩
    show Value.int n 0 = _
    rw [fval_leB (.inr rfl) true (by simpa using hn)]
  | zz q => omega
  | f4 q => omega
  | var q => omega
end
end Mine
end
section
open PySem PySem.Spec PySem.Calls PySem.W PyProof.Rows
open LCg (NsObj ns_obj fr_but)
set_option maxRecDepth 100000
set_option maxHeartbeats 4000000
set_option linter.unusedVariables false
namespace Mine

section
variable {prog : Program} {w : World} {loose : List Str} {mean : ExcName → Option Value} {mg mb : Str → Option Value} {A A₀ : Around} {env cenv : Env} {outer : List Env} {base h₀ h : Heap} {L D : Addr} {lv : Nat} {ns gl : List Str} {vs vs1 vs2 : List (Option Value)} {news nw foot rest dl tl Kp cl : List (Addr × Obj)} {x y n1 n2 : Str} {v u : Value} {p p1 p2 p3 p4 p' np cpos : Pos} {kk : Nat}
variable {gs : Array GenState} {dr : Drawn} {tk : Nat} {os : OsState} {Q E : Value → Shared → Prop} {QF : Flow → Shared → Prop} {e e1 e2 i o a b : Expr} {pos : Pos} {elts : List Expr} {rst : List Stmt} {s : Shared}


/-- a class's own int -/
theorem Ev.fd {attr : Str} {c : Int} {t : Tok} (N : FnEnv env L ns gl) (C : Cx w loose mean mg mb A env outer A₀ base h₀ L lv) (S : St h₀ L h ns vs news) (hx : Str.ofString "FieldDescriptor" ∈ gl) (e : findCls (hd.heap_39 w.params) (.ref 321) (.type "type") attr = some (.val (.int c t)))
    (he : eval (.Attribute (.Name (Str.ofString "FieldDescriptor") p1) attr p2) env = (do
      let o ← eval (.Name (Str.ofString "FieldDescriptor") p1) env
      standAt p2.atName
      let r ← holding [o] (getAttr o attr true)
      letTemporaryGo (.Name (Str.ofString "FieldDescriptor") p1) o r
      return r) := by rfl) : Ev prog w A env h (.Attribute (.Name (Str.ofString "FieldDescriptor") p1) attr p2) (.int c 0) := fun h1 s1 gs dr tk os Q E k => .mk (by
  refine Attribute_Name_ ((Ev.glob N C S (by k_is) hx rfl).use h1 s1 gs dr tk os _ _ fun v' h2 tk2 n2 s2 => ?_).out he
  obtain rfl := nt_ref n2
  refine ((S.grow s1).grow s2).elim fun m F _ => ?_
  exact cls_val F C.X (mc := .type "type") (by k_is) (by k_is) e rfl (k _ _ _ rfl s2))
theorem xd_9 {md : Nat} (hmd : md ≤ 2) (h2 : md ≠ 2) : XD prog w md 295 [(290, tabObj #[])] 2 (LOk SP) := by
  match md, hmd, h2 with
  | 0, _, _ => exact str_mk0
  | 1, _, _ => exact str_mk1
  | 2, _, h => exact absurd rfl h
theorem xd_12 {md : Nat} (hmd : md ≤ 2) (h2 : md ≠ 2) : XD prog w md 303 [(298, tabObj #[])] 2 (LOk BP) := by
  match md, hmd, h2 with
  | 0, _, _ => exact byt_mk0
  | 1, _, _ => exact byt_mk1
  | 2, _, h => exact absurd rfl h
theorem kw_3 {a b : Int} (h : KW 3 a b) : a = 0 ∧ b = 64 := by simpa [KW, kindTab] using h
theorem kw_4 {a b : Int} (h : KW 4 a b) : a = 0 ∧ b = 64 := by simpa [KW, kindTab] using h
theorem kw_5 {a b : Int} (h : KW 5 a b) : a = 0 ∧ b = 32 := by simpa [KW, kindTab] using h
theorem kw_6 {a b : Int} (h : KW 6 a b) : a = 1 ∧ b = 64 := by simpa [KW, kindTab] using h
theorem kw_7 {a b : Int} (h : KW 7 a b) : a = 5 ∧ b = 32 := by simpa [KW, kindTab] using h
theorem kw_8 {a b : Int} (h : KW 8 a b) : a = 0 ∧ b = 1 := by simpa [KW, kindTab] using h
theorem kw_9 {a b : Int} (h : KW 9 a b) : a = 2 ∧ b = 0 := by simpa [KW, kindTab] using h
theorem kw_12 {a b : Int} (h : KW 12 a b) : a = 2 ∧ b = 0 := by simpa [KW, kindTab] using h
theorem kw_13 {a b : Int} (h : KW 13 a b) : a = 0 ∧ b = 32 := by simpa [KW, kindTab] using h
theorem kw_15 {a b : Int} (h : KW 15 a b) : a = 5 ∧ b = 32 := by simpa [KW, kindTab] using h
theorem kw_16 {a b : Int} (h : KW 16 a b) : a = 1 ∧ b = 64 := by simpa [KW, kindTab] using h
theorem kw_17 {a b : Int} (h : KW 17 a b) : a = 0 ∧ b = 32 := by simpa [KW, kindTab] using h
theorem kw_18 {a b : Int} (h : KW 18 a b) : a = 0 ∧ b = 64 := by simpa [KW, kindTab] using h
theorem kw_end {k a b : Int} (h : KW k a b) (hn : k ≠ 3 ∧ k ≠ 4 ∧ k ≠ 5 ∧ k ≠ 6 ∧ k ≠ 7 ∧ k ≠ 8 ∧ k ≠ 9 ∧ k ≠ 12 ∧ k ≠ 13 ∧ k ≠ 15 ∧ k ≠ 16 ∧ k ≠ 17 ∧ k ≠ 18) : False := by
  refine KW.cases (P := fun k _ _ => (k ≠ 3 ∧ k ≠ 4 ∧ k ≠ 5 ∧ k ≠ 6 ∧ k ≠ 7 ∧ k ≠ 8 ∧ k ≠ 9 ∧ k ≠ 12 ∧ k ≠ 13 ∧ k ≠ 15 ∧ k ≠ 16 ∧ k ≠ 17 ∧ k ≠ 18) → False) ?_ ?_ ?_ ?_ ?_ ?_ ?_ ?_ ?_ ?_ ?_ ?_ ?_ h hn <;> simp

/-- DecoderOf -/
theorem decof_ok {kind wire bits : Int} {md num : Nat} {clr : Bool} {t0 t1 t2 : Tok} (hk : KW kind wire bits) (hmd : md ≤ 2) (hm2 : md = 2 → wire ≠ 2) (hnum : num < 2 ^ 30) (C : Cx w loose mean mg mb A env outer A₀ base h₀ L (12 + 1)) (S : St h₀ L h ns vs ([(298, tabObj #[]), (290, tabObj #[]), (179, tabObj #[]), (172, tabObj #[]), (165, tabObj #[]), (102, tabObj #[])] ++ rest))
    (k : ∀ d dl h' tk', (∀ h : Heap, (∀ q ∈ dl, h.get? q.1 = some q.2) → FnAt d h) → FD prog w md d dl num clr (vB (8 * num + wire.toNat)) (fun o v => Good kind bits v o) → GT [(298, tabObj #[]), (290, tabObj #[]), (179, tabObj #[]), (172, tabObj #[]), (165, tabObj #[]), (102, tabObj #[])] dl → St h₀ L h' ns vs (dl ++ rest) → Q (.ref d) ⟨h', gs, dr, tk', os⟩) :
    WP prog w A (PySem.call (.ref 333) [.int kind t0, .int num t1, .bool (decide (0 < md)), .bool (md == 2), .int num t2, .ref 383, .bool clr]) Q E ⟨h, gs, dr, tk, os⟩ := by
  refine call_fn (foot := [(298, tabObj #[]), (290, tabObj #[]), (179, tabObj #[]), (172, tabObj #[]), (165, tabObj #[]), (102, tabObj #[])]) (rest := rest) (args := ⟨[.int kind t0, .int num t1, .bool (decide (0 < md)), .bool (md == 2), .int num t2, .ref 383, .bool clr], []⟩) (binds := [(Str.ofString "field_type", .int kind t0), (Str.ofString "field_number", .int num t1), (Str.ofString "is_repeated", .bool (decide (0 < md))), (Str.ofString "is_packed", .bool (md == 2)), (Str.ofString "key", .int num t2), (Str.ofString "new_default", .ref 383), (Str.ofString "clear_if_default", .bool clr)]) (Rel := fun v nw => ∃ d, v = .ref d ∧ (∀ h : Heap, (∀ q ∈ nw, h.get? q.1 = some q.2) → FnAt d h) ∧ FD prog w md d nw num clr (vB (8 * num + wire.toNat)) (fun o v => Good kind bits v o) ∧ GT [(298, tabObj #[]), (290, tabObj #[]), (179, tabObj #[]), (172, tabObj #[]), (165, tabObj #[]), (102, tabObj #[])] nw) (ns' := [Str.ofString "field_type", Str.ofString "field_number", Str.ofString "is_repeated", Str.ofString "is_packed", Str.ofString "key", Str.ofString "new_default", Str.ofString "clear_if_default"]) (gl' := [Str.ofString "FieldDescriptor", Str.ofString "Int64Decoder", Str.ofString "UInt64Decoder", Str.ofString "Int32Decoder", Str.ofString "Fixed64Decoder", Str.ofString "Fixed32Decoder", Str.ofString "BoolDecoder", Str.ofString "StringDecoder", Str.ofString "BytesDecoder", Str.ofString "UInt32Decoder", Str.ofString "SFixed32Decoder", Str.ofString "SFixed64Decoder", Str.ofString "SInt32Decoder", Str.ofString "SInt64Decoder"]) (vs' := [some (.int kind 0), some (.int num 0), some (.bool (decide (0 < md))), some (.bool (md == 2)), some (.int num 0), some (.ref 383), some (.bool clr)]) C S (K_get C S (by k_is)) rfl (K_code C S (by k_is)) (BindsTo.of_eq rfl) (locs rfl) (by decide)
    (fnEnv_of rfl (by decide +kernel) (by decide +kernel) (by decide +kernel) (by decide +kernel)) (hvs_of (ps := [Str.ofString "field_type", Str.ofString "field_number", Str.ofString "is_repeated", Str.ofString "is_packed", Str.ofString "key", Str.ofString "new_default", Str.ofString "clear_if_default"]) (args := [.int kind t0, .int num t1, .bool (decide (0 < md)), .bool (md == 2), .int num t2, .ref 383, .bool clr]) (by decide +kernel) rfl []) ?_ ?_
  · intro g L' h₁ tk₁ env' A' he hA C' N' S' kp Q' E' ret
    clear he hA kp
    refine x_if (Ts.eq (Ev.loc N' S' .hd) (Ev.fd N' C' S' (.head _) (by k_is))) (fun hc h2 tk2 s2 => ?_) fun hc3 h2 tk2 s2 => x_nil (Nx.go ?_)
    · have hkc : kind = 3 := by simpa using hc
      subst hkc
      obtain ⟨rfl, rfl⟩ := kw_3 hk
      have S2 := S'.grow s2
      refine x_retW (c_fn (a := 208) (Ev.glob N' C' S2 (by k_is) (.tail _ (.head _)) rfl) fun h3 tk3 s3 => ?_)
      have S3 := S2.grow s3
      refine sp_p (Ev.loc N' S3 (.tl .hd)) fun v20 h20 tk20 n20 s20 => sp_p (Ev.loc N' (S3.grow s20) (.tl (.tl .hd))) fun v21 h21 tk21 n21 s21 => sp_p (Ev.loc N' ((S3.grow s20).grow s21) (.tl (.tl (.tl .hd)))) fun v22 h22 tk22 n22 s22 => sp_p (Ev.loc N' (((S3.grow s20).grow s21).grow s22) (.tl (.tl (.tl (.tl .hd))))) fun v23 h23 tk23 n23 s23 => sp_p (Ev.loc N' ((((S3.grow s20).grow s21).grow s22).grow s23) (.tl (.tl (.tl (.tl (.tl .hd)))))) fun v24 h24 tk24 n24 s24 => sp_p (Ev.loc N' (((((S3.grow s20).grow s21).grow s22).grow s23).grow s24) (.tl (.tl (.tl (.tl (.tl (.tl .hd))))))) fun v25 h25 tk25 n25 s25 => sp_n ?_
      obtain ⟨t20, rfl⟩ := nt_int n20
      obtain rfl := nt_bool n21
      obtain rfl := nt_bool n22
      obtain ⟨t23, rfl⟩ := nt_int n23
      obtain rfl := nt_ref n24
      obtain rfl := nt_bool n25
      have S26 := ((((((S3.grow s20).grow s21).grow s22).grow s23).grow s24).grow s25)
      have S27 : St g L' _ _ _ ([(165, tabObj #[])] ++ ((102, tabObj #[]) :: [(298, tabObj #[]), (290, tabObj #[]), (179, tabObj #[]), (172, tabObj #[])])) := S26.perm (fun q hq => match q, hq with
        | _, .head _ => .tail _ (.tail _ (.tail _ (.tail _ (.head _))))
        | _, .tail _ (.head _) => .tail _ (.tail _ (.tail _ (.tail _ (.tail _ (.head _)))))
        | _, .tail _ (.tail _ (.head _)) => .head _
        | _, .tail _ (.tail _ (.tail _ (.head _))) => .tail _ (.head _)
        | _, .tail _ (.tail _ (.tail _ (.tail _ (.head _)))) => .tail _ (.tail _ (.head _))
        | _, .tail _ (.tail _ (.tail _ (.tail _ (.tail _ (.head _))))) => .tail _ (.tail _ (.tail _ (.head _)))) (by decide)
      refine ⟨fnAt_K C' S26 (by k_is), ((xd_3 hmd).run num clr t20 t23 hnum C' S27 fun d dl h28 tk28 hf hfd hg S28 => ?_).out⟩
      refine ret _ _ _ _ _ _ S28 ⟨d, rfl, fun h hq => hf h fun q h2 => hq q (List.mem_append_left _ h2), FD.more hmd (FD.ok hmd hfd gd3), ?_⟩
      intro P ps hm
      match P, ps, hm with
      | _, _, .head _ => exact ⟨_, List.mem_append_right _ (.head _)⟩
      | _, _, .tail _ (.head _) => exact ⟨_, List.mem_append_right _ (.tail _ (.head _))⟩
      | _, _, .tail _ (.tail _ (.head _)) => exact ⟨_, List.mem_append_right _ (.tail _ (.tail _ (.head _)))⟩
      | _, _, .tail _ (.tail _ (.tail _ (.head _))) => exact ⟨_, List.mem_append_right _ (.tail _ (.tail _ (.tail _ (.head _))))⟩
      | _, _, .tail _ (.tail _ (.tail _ (.tail _ (.head _)))) => exact (hg 165 _ (.head _)).elim fun p h => ⟨p, List.mem_append_left _ h⟩
      | _, _, .tail _ (.tail _ (.tail _ (.tail _ (.tail _ (.head _))))) => exact (hg 102 _ (.tail _ (.head _))).elim fun p h => ⟨p, List.mem_append_left _ h⟩
    have S_3 := S'.grow s2
    refine x_if (Ts.eq (Ev.loc N' S_3 .hd) (Ev.fd N' C' S_3 (.head _) (by k_is))) (fun hc h2 tk2 s2 => ?_) fun hc4 h2 tk2 s2 => x_nil (Nx.go ?_)
    · have hkc : kind = 4 := by simpa using hc
      subst hkc
      obtain ⟨rfl, rfl⟩ := kw_4 hk
      have S2 := S_3.grow s2
      refine x_retW (c_fn (a := 224) (Ev.glob N' C' S2 (by k_is) (.tail _ (.tail _ (.head _))) rfl) fun h3 tk3 s3 => ?_)
      have S3 := S2.grow s3
      refine sp_p (Ev.loc N' S3 (.tl .hd)) fun v20 h20 tk20 n20 s20 => sp_p (Ev.loc N' (S3.grow s20) (.tl (.tl .hd))) fun v21 h21 tk21 n21 s21 => sp_p (Ev.loc N' ((S3.grow s20).grow s21) (.tl (.tl (.tl .hd)))) fun v22 h22 tk22 n22 s22 => sp_p (Ev.loc N' (((S3.grow s20).grow s21).grow s22) (.tl (.tl (.tl (.tl .hd))))) fun v23 h23 tk23 n23 s23 => sp_p (Ev.loc N' ((((S3.grow s20).grow s21).grow s22).grow s23) (.tl (.tl (.tl (.tl (.tl .hd)))))) fun v24 h24 tk24 n24 s24 => sp_p (Ev.loc N' (((((S3.grow s20).grow s21).grow s22).grow s23).grow s24) (.tl (.tl (.tl (.tl (.tl (.tl .hd))))))) fun v25 h25 tk25 n25 s25 => sp_n ?_
      obtain ⟨t20, rfl⟩ := nt_int n20
      obtain rfl := nt_bool n21
      obtain rfl := nt_bool n22
      obtain ⟨t23, rfl⟩ := nt_int n23
      obtain rfl := nt_ref n24
      obtain rfl := nt_bool n25
      have S26 := ((((((S3.grow s20).grow s21).grow s22).grow s23).grow s24).grow s25)
      have S27 : St g L' _ _ _ ([(165, tabObj #[])] ++ ((102, tabObj #[]) :: [(298, tabObj #[]), (290, tabObj #[]), (179, tabObj #[]), (172, tabObj #[])])) := S26.perm (fun q hq => match q, hq with
        | _, .head _ => .tail _ (.tail _ (.tail _ (.tail _ (.head _))))
        | _, .tail _ (.head _) => .tail _ (.tail _ (.tail _ (.tail _ (.tail _ (.head _)))))
        | _, .tail _ (.tail _ (.head _)) => .head _
        | _, .tail _ (.tail _ (.tail _ (.head _))) => .tail _ (.head _)
        | _, .tail _ (.tail _ (.tail _ (.tail _ (.head _)))) => .tail _ (.tail _ (.head _))
        | _, .tail _ (.tail _ (.tail _ (.tail _ (.tail _ (.head _))))) => .tail _ (.tail _ (.tail _ (.head _)))) (by decide)
      refine ⟨fnAt_K C' S26 (by k_is), ((xd_4 hmd).run num clr t20 t23 hnum C' S27 fun d dl h28 tk28 hf hfd hg S28 => ?_).out⟩
      refine ret _ _ _ _ _ _ S28 ⟨d, rfl, fun h hq => hf h fun q h2 => hq q (List.mem_append_left _ h2), FD.more hmd (FD.ok hmd hfd gd4), ?_⟩
      intro P ps hm
      match P, ps, hm with
      | _, _, .head _ => exact ⟨_, List.mem_append_right _ (.head _)⟩
      | _, _, .tail _ (.head _) => exact ⟨_, List.mem_append_right _ (.tail _ (.head _))⟩
      | _, _, .tail _ (.tail _ (.head _)) => exact ⟨_, List.mem_append_right _ (.tail _ (.tail _ (.head _)))⟩
      | _, _, .tail _ (.tail _ (.tail _ (.head _))) => exact ⟨_, List.mem_append_right _ (.tail _ (.tail _ (.tail _ (.head _))))⟩
      | _, _, .tail _ (.tail _ (.tail _ (.tail _ (.head _)))) => exact (hg 165 _ (.head _)).elim fun p h => ⟨p, List.mem_append_left _ h⟩
      | _, _, .tail _ (.tail _ (.tail _ (.tail _ (.tail _ (.head _))))) => exact (hg 102 _ (.tail _ (.head _))).elim fun p h => ⟨p, List.mem_append_left _ h⟩
    have S_4 := S_3.grow s2
    refine x_if (Ts.eq (Ev.loc N' S_4 .hd) (Ev.fd N' C' S_4 (.head _) (by k_is))) (fun hc h2 tk2 s2 => ?_) fun hc5 h2 tk2 s2 => x_nil (Nx.go ?_)
    · have hkc : kind = 5 := by simpa using hc
      subst hkc
      obtain ⟨rfl, rfl⟩ := kw_5 hk
      have S2 := S_4.grow s2
      refine x_retW (c_fn (a := 200) (Ev.glob N' C' S2 (by k_is) (.tail _ (.tail _ (.tail _ (.head _)))) rfl) fun h3 tk3 s3 => ?_)
      have S3 := S2.grow s3
      refine sp_p (Ev.loc N' S3 (.tl .hd)) fun v20 h20 tk20 n20 s20 => sp_p (Ev.loc N' (S3.grow s20) (.tl (.tl .hd))) fun v21 h21 tk21 n21 s21 => sp_p (Ev.loc N' ((S3.grow s20).grow s21) (.tl (.tl (.tl .hd)))) fun v22 h22 tk22 n22 s22 => sp_p (Ev.loc N' (((S3.grow s20).grow s21).grow s22) (.tl (.tl (.tl (.tl .hd))))) fun v23 h23 tk23 n23 s23 => sp_p (Ev.loc N' ((((S3.grow s20).grow s21).grow s22).grow s23) (.tl (.tl (.tl (.tl (.tl .hd)))))) fun v24 h24 tk24 n24 s24 => sp_p (Ev.loc N' (((((S3.grow s20).grow s21).grow s22).grow s23).grow s24) (.tl (.tl (.tl (.tl (.tl (.tl .hd))))))) fun v25 h25 tk25 n25 s25 => sp_n ?_
      obtain ⟨t20, rfl⟩ := nt_int n20
      obtain rfl := nt_bool n21
      obtain rfl := nt_bool n22
      obtain ⟨t23, rfl⟩ := nt_int n23
      obtain rfl := nt_ref n24
      obtain rfl := nt_bool n25
      have S26 := ((((((S3.grow s20).grow s21).grow s22).grow s23).grow s24).grow s25)
      have S27 : St g L' _ _ _ ([(165, tabObj #[])] ++ ((102, tabObj #[]) :: [(298, tabObj #[]), (290, tabObj #[]), (179, tabObj #[]), (172, tabObj #[])])) := S26.perm (fun q hq => match q, hq with
        | _, .head _ => .tail _ (.tail _ (.tail _ (.tail _ (.head _))))
        | _, .tail _ (.head _) => .tail _ (.tail _ (.tail _ (.tail _ (.tail _ (.head _)))))
        | _, .tail _ (.tail _ (.head _)) => .head _
        | _, .tail _ (.tail _ (.tail _ (.head _))) => .tail _ (.head _)
        | _, .tail _ (.tail _ (.tail _ (.tail _ (.head _)))) => .tail _ (.tail _ (.head _))
        | _, .tail _ (.tail _ (.tail _ (.tail _ (.tail _ (.head _))))) => .tail _ (.tail _ (.tail _ (.head _)))) (by decide)
      refine ⟨fnAt_K C' S26 (by k_is), ((xd_5 hmd).run num clr t20 t23 hnum C' S27 fun d dl h28 tk28 hf hfd hg S28 => ?_).out⟩
      refine ret _ _ _ _ _ _ S28 ⟨d, rfl, fun h hq => hf h fun q h2 => hq q (List.mem_append_left _ h2), FD.more hmd (FD.ok hmd hfd gd5), ?_⟩
      intro P ps hm
      match P, ps, hm with
      | _, _, .head _ => exact ⟨_, List.mem_append_right _ (.head _)⟩
      | _, _, .tail _ (.head _) => exact ⟨_, List.mem_append_right _ (.tail _ (.head _))⟩
      | _, _, .tail _ (.tail _ (.head _)) => exact ⟨_, List.mem_append_right _ (.tail _ (.tail _ (.head _)))⟩
      | _, _, .tail _ (.tail _ (.tail _ (.head _))) => exact ⟨_, List.mem_append_right _ (.tail _ (.tail _ (.tail _ (.head _))))⟩
      | _, _, .tail _ (.tail _ (.tail _ (.tail _ (.head _)))) => exact (hg 165 _ (.head _)).elim fun p h => ⟨p, List.mem_append_left _ h⟩
      | _, _, .tail _ (.tail _ (.tail _ (.tail _ (.tail _ (.head _))))) => exact (hg 102 _ (.tail _ (.head _))).elim fun p h => ⟨p, List.mem_append_left _ h⟩
    have S_5 := S_4.grow s2
    refine x_if (Ts.eq (Ev.loc N' S_5 .hd) (Ev.fd N' C' S_5 (.head _) (by k_is))) (fun hc h2 tk2 s2 => ?_) fun hc6 h2 tk2 s2 => x_nil (Nx.go ?_)
    · have hkc : kind = 6 := by simpa using hc
      subst hkc
      obtain ⟨rfl, rfl⟩ := kw_6 hk
      have S2 := S_5.grow s2
      refine x_retW (c_fn (a := 256) (Ev.glob N' C' S2 (by k_is) (.tail _ (.tail _ (.tail _ (.tail _ (.head _))))) rfl) fun h3 tk3 s3 => ?_)
      have S3 := S2.grow s3
      refine sp_p (Ev.loc N' S3 (.tl .hd)) fun v20 h20 tk20 n20 s20 => sp_p (Ev.loc N' (S3.grow s20) (.tl (.tl .hd))) fun v21 h21 tk21 n21 s21 => sp_p (Ev.loc N' ((S3.grow s20).grow s21) (.tl (.tl (.tl .hd)))) fun v22 h22 tk22 n22 s22 => sp_p (Ev.loc N' (((S3.grow s20).grow s21).grow s22) (.tl (.tl (.tl (.tl .hd))))) fun v23 h23 tk23 n23 s23 => sp_p (Ev.loc N' ((((S3.grow s20).grow s21).grow s22).grow s23) (.tl (.tl (.tl (.tl (.tl .hd)))))) fun v24 h24 tk24 n24 s24 => sp_p (Ev.loc N' (((((S3.grow s20).grow s21).grow s22).grow s23).grow s24) (.tl (.tl (.tl (.tl (.tl (.tl .hd))))))) fun v25 h25 tk25 n25 s25 => sp_n ?_
      obtain ⟨t20, rfl⟩ := nt_int n20
      obtain rfl := nt_bool n21
      obtain rfl := nt_bool n22
      obtain ⟨t23, rfl⟩ := nt_int n23
      obtain rfl := nt_ref n24
      obtain rfl := nt_bool n25
      have S26 := ((((((S3.grow s20).grow s21).grow s22).grow s23).grow s24).grow s25)
      have S27 : St g L' _ _ _ ([(179, tabObj #[]), (165, tabObj #[])] ++ ((102, tabObj #[]) :: [(298, tabObj #[]), (290, tabObj #[]), (172, tabObj #[])])) := S26.perm (fun q hq => match q, hq with
        | _, .head _ => .tail _ (.tail _ (.head _))
        | _, .tail _ (.head _) => .tail _ (.tail _ (.tail _ (.tail _ (.head _))))
        | _, .tail _ (.tail _ (.head _)) => .tail _ (.tail _ (.tail _ (.tail _ (.tail _ (.head _)))))
        | _, .tail _ (.tail _ (.tail _ (.head _))) => .head _
        | _, .tail _ (.tail _ (.tail _ (.tail _ (.head _)))) => .tail _ (.head _)
        | _, .tail _ (.tail _ (.tail _ (.tail _ (.tail _ (.head _))))) => .tail _ (.tail _ (.tail _ (.head _)))) (by decide)
      refine ⟨fnAt_K C' S26 (by k_is), ((xd_6 hmd).run num clr t20 t23 hnum C' S27 fun d dl h28 tk28 hf hfd hg S28 => ?_).out⟩
      refine ret _ _ _ _ _ _ S28 ⟨d, rfl, fun h hq => hf h fun q h2 => hq q (List.mem_append_left _ h2), FD.more hmd (FD.ok hmd hfd gd6), ?_⟩
      intro P ps hm
      match P, ps, hm with
      | _, _, .head _ => exact ⟨_, List.mem_append_right _ (.head _)⟩
      | _, _, .tail _ (.head _) => exact ⟨_, List.mem_append_right _ (.tail _ (.head _))⟩
      | _, _, .tail _ (.tail _ (.head _)) => exact (hg 179 _ (.head _)).elim fun p h => ⟨p, List.mem_append_left _ h⟩
      | _, _, .tail _ (.tail _ (.tail _ (.head _))) => exact ⟨_, List.mem_append_right _ (.tail _ (.tail _ (.head _)))⟩
      | _, _, .tail _ (.tail _ (.tail _ (.tail _ (.head _)))) => exact (hg 165 _ (.tail _ (.head _))).elim fun p h => ⟨p, List.mem_append_left _ h⟩
      | _, _, .tail _ (.tail _ (.tail _ (.tail _ (.tail _ (.head _))))) => exact (hg 102 _ (.tail _ (.tail _ (.head _)))).elim fun p h => ⟨p, List.mem_append_left _ h⟩
    have S_6 := S_5.grow s2
    refine x_if (Ts.eq (Ev.loc N' S_6 .hd) (Ev.fd N' C' S_6 (.head _) (by k_is))) (fun hc h2 tk2 s2 => ?_) fun hc7 h2 tk2 s2 => x_nil (Nx.go ?_)
    · have hkc : kind = 7 := by simpa using hc
      subst hkc
      obtain ⟨rfl, rfl⟩ := kw_7 hk
      have S2 := S_6.grow s2
      refine x_retW (c_fn (a := 248) (Ev.glob N' C' S2 (by k_is) (.tail _ (.tail _ (.tail _ (.tail _ (.tail _ (.head _)))))) rfl) fun h3 tk3 s3 => ?_)
      have S3 := S2.grow s3
      refine sp_p (Ev.loc N' S3 (.tl .hd)) fun v20 h20 tk20 n20 s20 => sp_p (Ev.loc N' (S3.grow s20) (.tl (.tl .hd))) fun v21 h21 tk21 n21 s21 => sp_p (Ev.loc N' ((S3.grow s20).grow s21) (.tl (.tl (.tl .hd)))) fun v22 h22 tk22 n22 s22 => sp_p (Ev.loc N' (((S3.grow s20).grow s21).grow s22) (.tl (.tl (.tl (.tl .hd))))) fun v23 h23 tk23 n23 s23 => sp_p (Ev.loc N' ((((S3.grow s20).grow s21).grow s22).grow s23) (.tl (.tl (.tl (.tl (.tl .hd)))))) fun v24 h24 tk24 n24 s24 => sp_p (Ev.loc N' (((((S3.grow s20).grow s21).grow s22).grow s23).grow s24) (.tl (.tl (.tl (.tl (.tl (.tl .hd))))))) fun v25 h25 tk25 n25 s25 => sp_n ?_
      obtain ⟨t20, rfl⟩ := nt_int n20
      obtain rfl := nt_bool n21
      obtain rfl := nt_bool n22
      obtain ⟨t23, rfl⟩ := nt_int n23
      obtain rfl := nt_ref n24
      obtain rfl := nt_bool n25
      have S26 := ((((((S3.grow s20).grow s21).grow s22).grow s23).grow s24).grow s25)
      have S27 : St g L' _ _ _ ([(179, tabObj #[]), (165, tabObj #[])] ++ ((102, tabObj #[]) :: [(298, tabObj #[]), (290, tabObj #[]), (172, tabObj #[])])) := S26.perm (fun q hq => match q, hq with
        | _, .head _ => .tail _ (.tail _ (.head _))
        | _, .tail _ (.head _) => .tail _ (.tail _ (.tail _ (.tail _ (.head _))))
        | _, .tail _ (.tail _ (.head _)) => .tail _ (.tail _ (.tail _ (.tail _ (.tail _ (.head _)))))
        | _, .tail _ (.tail _ (.tail _ (.head _))) => .head _
        | _, .tail _ (.tail _ (.tail _ (.tail _ (.head _)))) => .tail _ (.head _)
        | _, .tail _ (.tail _ (.tail _ (.tail _ (.tail _ (.head _))))) => .tail _ (.tail _ (.tail _ (.head _)))) (by decide)
      refine ⟨fnAt_K C' S26 (by k_is), ((xd_7 hmd).run num clr t20 t23 hnum C' S27 fun d dl h28 tk28 hf hfd hg S28 => ?_).out⟩
      refine ret _ _ _ _ _ _ S28 ⟨d, rfl, fun h hq => hf h fun q h2 => hq q (List.mem_append_left _ h2), FD.more hmd (FD.ok hmd hfd gd7), ?_⟩
      intro P ps hm
      match P, ps, hm with
      | _, _, .head _ => exact ⟨_, List.mem_append_right _ (.head _)⟩
      | _, _, .tail _ (.head _) => exact ⟨_, List.mem_append_right _ (.tail _ (.head _))⟩
      | _, _, .tail _ (.tail _ (.head _)) => exact (hg 179 _ (.head _)).elim fun p h => ⟨p, List.mem_append_left _ h⟩
      | _, _, .tail _ (.tail _ (.tail _ (.head _))) => exact ⟨_, List.mem_append_right _ (.tail _ (.tail _ (.head _)))⟩
      | _, _, .tail _ (.tail _ (.tail _ (.tail _ (.head _)))) => exact (hg 165 _ (.tail _ (.head _))).elim fun p h => ⟨p, List.mem_append_left _ h⟩
      | _, _, .tail _ (.tail _ (.tail _ (.tail _ (.tail _ (.head _))))) => exact (hg 102 _ (.tail _ (.tail _ (.head _)))).elim fun p h => ⟨p, List.mem_append_left _ h⟩
    have S_7 := S_6.grow s2
    refine x_if (Ts.eq (Ev.loc N' S_7 .hd) (Ev.fd N' C' S_7 (.head _) (by k_is))) (fun hc h2 tk2 s2 => ?_) fun hc8 h2 tk2 s2 => x_nil (Nx.go ?_)
    · have hkc : kind = 8 := by simpa using hc
      subst hkc
      obtain ⟨rfl, rfl⟩ := kw_8 hk
      have S2 := S_7.grow s2
      refine x_retW (c_fn (a := 287) (Ev.glob N' C' S2 (by k_is) (.tail _ (.tail _ (.tail _ (.tail _ (.tail _ (.tail _ (.head _))))))) rfl) fun h3 tk3 s3 => ?_)
      have S3 := S2.grow s3
      refine sp_p (Ev.loc N' S3 (.tl .hd)) fun v20 h20 tk20 n20 s20 => sp_p (Ev.loc N' (S3.grow s20) (.tl (.tl .hd))) fun v21 h21 tk21 n21 s21 => sp_p (Ev.loc N' ((S3.grow s20).grow s21) (.tl (.tl (.tl .hd)))) fun v22 h22 tk22 n22 s22 => sp_p (Ev.loc N' (((S3.grow s20).grow s21).grow s22) (.tl (.tl (.tl (.tl .hd))))) fun v23 h23 tk23 n23 s23 => sp_p (Ev.loc N' ((((S3.grow s20).grow s21).grow s22).grow s23) (.tl (.tl (.tl (.tl (.tl .hd)))))) fun v24 h24 tk24 n24 s24 => sp_p (Ev.loc N' (((((S3.grow s20).grow s21).grow s22).grow s23).grow s24) (.tl (.tl (.tl (.tl (.tl (.tl .hd))))))) fun v25 h25 tk25 n25 s25 => sp_n ?_
      obtain ⟨t20, rfl⟩ := nt_int n20
      obtain rfl := nt_bool n21
      obtain rfl := nt_bool n22
      obtain ⟨t23, rfl⟩ := nt_int n23
      obtain rfl := nt_ref n24
      obtain rfl := nt_bool n25
      have S26 := ((((((S3.grow s20).grow s21).grow s22).grow s23).grow s24).grow s25)
      have S27 : St g L' _ _ _ ([(172, tabObj #[]), (165, tabObj #[])] ++ ((102, tabObj #[]) :: [(298, tabObj #[]), (290, tabObj #[]), (179, tabObj #[])])) := S26.perm (fun q hq => match q, hq with
        | _, .head _ => .tail _ (.tail _ (.tail _ (.head _)))
        | _, .tail _ (.head _) => .tail _ (.tail _ (.tail _ (.tail _ (.head _))))
        | _, .tail _ (.tail _ (.head _)) => .tail _ (.tail _ (.tail _ (.tail _ (.tail _ (.head _)))))
        | _, .tail _ (.tail _ (.tail _ (.head _))) => .head _
        | _, .tail _ (.tail _ (.tail _ (.tail _ (.head _)))) => .tail _ (.head _)
        | _, .tail _ (.tail _ (.tail _ (.tail _ (.tail _ (.head _))))) => .tail _ (.tail _ (.head _))) (by decide)
      refine ⟨fnAt_K C' S26 (by k_is), ((xd_8 hmd).run num clr t20 t23 hnum C' S27 fun d dl h28 tk28 hf hfd hg S28 => ?_).out⟩
      refine ret _ _ _ _ _ _ S28 ⟨d, rfl, fun h hq => hf h fun q h2 => hq q (List.mem_append_left _ h2), FD.more hmd (FD.ok hmd hfd gd8), ?_⟩
      intro P ps hm
      match P, ps, hm with
      | _, _, .head _ => exact ⟨_, List.mem_append_right _ (.head _)⟩
      | _, _, .tail _ (.head _) => exact ⟨_, List.mem_append_right _ (.tail _ (.head _))⟩
      | _, _, .tail _ (.tail _ (.head _)) => exact ⟨_, List.mem_append_right _ (.tail _ (.tail _ (.head _)))⟩
      | _, _, .tail _ (.tail _ (.tail _ (.head _))) => exact (hg 172 _ (.head _)).elim fun p h => ⟨p, List.mem_append_left _ h⟩
      | _, _, .tail _ (.tail _ (.tail _ (.tail _ (.head _)))) => exact (hg 165 _ (.tail _ (.head _))).elim fun p h => ⟨p, List.mem_append_left _ h⟩
      | _, _, .tail _ (.tail _ (.tail _ (.tail _ (.tail _ (.head _))))) => exact (hg 102 _ (.tail _ (.tail _ (.head _)))).elim fun p h => ⟨p, List.mem_append_left _ h⟩
    have S_8 := S_7.grow s2
    refine x_if (Ts.eq (Ev.loc N' S_8 .hd) (Ev.fd N' C' S_8 (.head _) (by k_is))) (fun hc h2 tk2 s2 => ?_) fun hc9 h2 tk2 s2 => x_nil (Nx.go ?_)
    · have hkc : kind = 9 := by simpa using hc
      subst hkc
      obtain ⟨rfl, rfl⟩ := kw_9 hk
      have S2 := S_8.grow s2
      refine x_retW (c_fn (a := 295) (Ev.glob N' C' S2 (by k_is) (.tail _ (.tail _ (.tail _ (.tail _ (.tail _ (.tail _ (.tail _ (.head _)))))))) rfl) fun h3 tk3 s3 => ?_)
      have S3 := S2.grow s3
      refine sp_p (Ev.loc N' S3 (.tl .hd)) fun v20 h20 tk20 n20 s20 => sp_p (Ev.loc N' (S3.grow s20) (.tl (.tl .hd))) fun v21 h21 tk21 n21 s21 => sp_p (Ev.loc N' ((S3.grow s20).grow s21) (.tl (.tl (.tl .hd)))) fun v22 h22 tk22 n22 s22 => sp_p (Ev.loc N' (((S3.grow s20).grow s21).grow s22) (.tl (.tl (.tl (.tl .hd))))) fun v23 h23 tk23 n23 s23 => sp_p (Ev.loc N' ((((S3.grow s20).grow s21).grow s22).grow s23) (.tl (.tl (.tl (.tl (.tl .hd)))))) fun v24 h24 tk24 n24 s24 => sp_p (Ev.loc N' (((((S3.grow s20).grow s21).grow s22).grow s23).grow s24) (.tl (.tl (.tl (.tl (.tl (.tl .hd))))))) fun v25 h25 tk25 n25 s25 => sp_n ?_
      obtain ⟨t20, rfl⟩ := nt_int n20
      obtain rfl := nt_bool n21
      obtain rfl := nt_bool n22
      obtain ⟨t23, rfl⟩ := nt_int n23
      obtain rfl := nt_ref n24
      obtain rfl := nt_bool n25
      have S26 := ((((((S3.grow s20).grow s21).grow s22).grow s23).grow s24).grow s25)
      have S27 : St g L' _ _ _ ([(290, tabObj #[])] ++ ((102, tabObj #[]) :: [(298, tabObj #[]), (179, tabObj #[]), (172, tabObj #[]), (165, tabObj #[])])) := S26.perm (fun q hq => match q, hq with
        | _, .head _ => .tail _ (.head _)
        | _, .tail _ (.head _) => .tail _ (.tail _ (.tail _ (.tail _ (.tail _ (.head _)))))
        | _, .tail _ (.tail _ (.head _)) => .head _
        | _, .tail _ (.tail _ (.tail _ (.head _))) => .tail _ (.tail _ (.head _))
        | _, .tail _ (.tail _ (.tail _ (.tail _ (.head _)))) => .tail _ (.tail _ (.tail _ (.head _)))
        | _, .tail _ (.tail _ (.tail _ (.tail _ (.tail _ (.head _))))) => .tail _ (.tail _ (.tail _ (.tail _ (.head _))))) (by decide)
      refine ⟨fnAt_K C' S26 (by k_is), ((xd_9 hmd (fun h => hm2 h rfl)).run num clr t20 t23 hnum C' S27 fun d dl h28 tk28 hf hfd hg S28 => ?_).out⟩
      refine ret _ _ _ _ _ _ S28 ⟨d, rfl, fun h hq => hf h fun q h2 => hq q (List.mem_append_left _ h2), FD.more hmd (FD.ok hmd hfd gd9), ?_⟩
      intro P ps hm
      match P, ps, hm with
      | _, _, .head _ => exact ⟨_, List.mem_append_right _ (.head _)⟩
      | _, _, .tail _ (.head _) => exact (hg 290 _ (.head _)).elim fun p h => ⟨p, List.mem_append_left _ h⟩
      | _, _, .tail _ (.tail _ (.head _)) => exact ⟨_, List.mem_append_right _ (.tail _ (.head _))⟩
      | _, _, .tail _ (.tail _ (.tail _ (.head _))) => exact ⟨_, List.mem_append_right _ (.tail _ (.tail _ (.head _)))⟩
      | _, _, .tail _ (.tail _ (.tail _ (.tail _ (.head _)))) => exact ⟨_, List.mem_append_right _ (.tail _ (.tail _ (.tail _ (.head _))))⟩
      | _, _, .tail _ (.tail _ (.tail _ (.tail _ (.tail _ (.head _))))) => exact (hg 102 _ (.tail _ (.head _))).elim fun p h => ⟨p, List.mem_append_left _ h⟩
    have S_9 := S_8.grow s2
    refine x_if (Ts.eq (Ev.loc N' S_9 .hd) (Ev.fd N' C' S_9 (.head _) (by k_is))) (fun hc h2 tk2 s2 => ?_) fun hc12 h2 tk2 s2 => x_nil (Nx.go ?_)
    · have hkc : kind = 12 := by simpa using hc
      subst hkc
      obtain ⟨rfl, rfl⟩ := kw_12 hk
      have S2 := S_9.grow s2
      refine x_retW (c_fn (a := 303) (Ev.glob N' C' S2 (by k_is) (.tail _ (.tail _ (.tail _ (.tail _ (.tail _ (.tail _ (.tail _ (.tail _ (.head _))))))))) rfl) fun h3 tk3 s3 => ?_)
      have S3 := S2.grow s3
      refine sp_p (Ev.loc N' S3 (.tl .hd)) fun v20 h20 tk20 n20 s20 => sp_p (Ev.loc N' (S3.grow s20) (.tl (.tl .hd))) fun v21 h21 tk21 n21 s21 => sp_p (Ev.loc N' ((S3.grow s20).grow s21) (.tl (.tl (.tl .hd)))) fun v22 h22 tk22 n22 s22 => sp_p (Ev.loc N' (((S3.grow s20).grow s21).grow s22) (.tl (.tl (.tl (.tl .hd))))) fun v23 h23 tk23 n23 s23 => sp_p (Ev.loc N' ((((S3.grow s20).grow s21).grow s22).grow s23) (.tl (.tl (.tl (.tl (.tl .hd)))))) fun v24 h24 tk24 n24 s24 => sp_p (Ev.loc N' (((((S3.grow s20).grow s21).grow s22).grow s23).grow s24) (.tl (.tl (.tl (.tl (.tl (.tl .hd))))))) fun v25 h25 tk25 n25 s25 => sp_n ?_
      obtain ⟨t20, rfl⟩ := nt_int n20
      obtain rfl := nt_bool n21
      obtain rfl := nt_bool n22
      obtain ⟨t23, rfl⟩ := nt_int n23
      obtain rfl := nt_ref n24
      obtain rfl := nt_bool n25
      have S26 := ((((((S3.grow s20).grow s21).grow s22).grow s23).grow s24).grow s25)
      have S27 : St g L' _ _ _ ([(298, tabObj #[])] ++ ((102, tabObj #[]) :: [(290, tabObj #[]), (179, tabObj #[]), (172, tabObj #[]), (165, tabObj #[])])) := S26.perm (fun q hq => match q, hq with
        | _, .head _ => .head _
        | _, .tail _ (.head _) => .tail _ (.tail _ (.tail _ (.tail _ (.tail _ (.head _)))))
        | _, .tail _ (.tail _ (.head _)) => .tail _ (.head _)
        | _, .tail _ (.tail _ (.tail _ (.head _))) => .tail _ (.tail _ (.head _))
        | _, .tail _ (.tail _ (.tail _ (.tail _ (.head _)))) => .tail _ (.tail _ (.tail _ (.head _)))
        | _, .tail _ (.tail _ (.tail _ (.tail _ (.tail _ (.head _))))) => .tail _ (.tail _ (.tail _ (.tail _ (.head _))))) (by decide)
      refine ⟨fnAt_K C' S26 (by k_is), ((xd_12 hmd (fun h => hm2 h rfl)).run num clr t20 t23 hnum C' S27 fun d dl h28 tk28 hf hfd hg S28 => ?_).out⟩
      refine ret _ _ _ _ _ _ S28 ⟨d, rfl, fun h hq => hf h fun q h2 => hq q (List.mem_append_left _ h2), FD.more hmd (FD.ok hmd hfd gd12), ?_⟩
      intro P ps hm
      match P, ps, hm with
      | _, _, .head _ => exact (hg 298 _ (.head _)).elim fun p h => ⟨p, List.mem_append_left _ h⟩
      | _, _, .tail _ (.head _) => exact ⟨_, List.mem_append_right _ (.head _)⟩
      | _, _, .tail _ (.tail _ (.head _)) => exact ⟨_, List.mem_append_right _ (.tail _ (.head _))⟩
      | _, _, .tail _ (.tail _ (.tail _ (.head _))) => exact ⟨_, List.mem_append_right _ (.tail _ (.tail _ (.head _)))⟩
      | _, _, .tail _ (.tail _ (.tail _ (.tail _ (.head _)))) => exact ⟨_, List.mem_append_right _ (.tail _ (.tail _ (.tail _ (.head _))))⟩
      | _, _, .tail _ (.tail _ (.tail _ (.tail _ (.tail _ (.head _))))) => exact (hg 102 _ (.tail _ (.head _))).elim fun p h => ⟨p, List.mem_append_left _ h⟩
    have S_12 := S_9.grow s2
    refine x_if (Ts.eq (Ev.loc N' S_12 .hd) (Ev.fd N' C' S_12 (.head _) (by k_is))) (fun hc h2 tk2 s2 => ?_) fun hc13 h2 tk2 s2 => x_nil (Nx.go ?_)
    · have hkc : kind = 13 := by simpa using hc
      subst hkc
      obtain ⟨rfl, rfl⟩ := kw_13 hk
      have S2 := S_12.grow s2
      refine x_retW (c_fn (a := 216) (Ev.glob N' C' S2 (by k_is) (.tail _ (.tail _ (.tail _ (.tail _ (.tail _ (.tail _ (.tail _ (.tail _ (.tail _ (.head _)))))))))) rfl) fun h3 tk3 s3 => ?_)
      have S3 := S2.grow s3
      refine sp_p (Ev.loc N' S3 (.tl .hd)) fun v20 h20 tk20 n20 s20 => sp_p (Ev.loc N' (S3.grow s20) (.tl (.tl .hd))) fun v21 h21 tk21 n21 s21 => sp_p (Ev.loc N' ((S3.grow s20).grow s21) (.tl (.tl (.tl .hd)))) fun v22 h22 tk22 n22 s22 => sp_p (Ev.loc N' (((S3.grow s20).grow s21).grow s22) (.tl (.tl (.tl (.tl .hd))))) fun v23 h23 tk23 n23 s23 => sp_p (Ev.loc N' ((((S3.grow s20).grow s21).grow s22).grow s23) (.tl (.tl (.tl (.tl (.tl .hd)))))) fun v24 h24 tk24 n24 s24 => sp_p (Ev.loc N' (((((S3.grow s20).grow s21).grow s22).grow s23).grow s24) (.tl (.tl (.tl (.tl (.tl (.tl .hd))))))) fun v25 h25 tk25 n25 s25 => sp_n ?_
      obtain ⟨t20, rfl⟩ := nt_int n20
      obtain rfl := nt_bool n21
      obtain rfl := nt_bool n22
      obtain ⟨t23, rfl⟩ := nt_int n23
      obtain rfl := nt_ref n24
      obtain rfl := nt_bool n25
      have S26 := ((((((S3.grow s20).grow s21).grow s22).grow s23).grow s24).grow s25)
      have S27 : St g L' _ _ _ ([(165, tabObj #[])] ++ ((102, tabObj #[]) :: [(298, tabObj #[]), (290, tabObj #[]), (179, tabObj #[]), (172, tabObj #[])])) := S26.perm (fun q hq => match q, hq with
        | _, .head _ => .tail _ (.tail _ (.tail _ (.tail _ (.head _))))
        | _, .tail _ (.head _) => .tail _ (.tail _ (.tail _ (.tail _ (.tail _ (.head _)))))
        | _, .tail _ (.tail _ (.head _)) => .head _
        | _, .tail _ (.tail _ (.tail _ (.head _))) => .tail _ (.head _)
        | _, .tail _ (.tail _ (.tail _ (.tail _ (.head _)))) => .tail _ (.tail _ (.head _))
        | _, .tail _ (.tail _ (.tail _ (.tail _ (.tail _ (.head _))))) => .tail _ (.tail _ (.tail _ (.head _)))) (by decide)
      refine ⟨fnAt_K C' S26 (by k_is), ((xd_13 hmd).run num clr t20 t23 hnum C' S27 fun d dl h28 tk28 hf hfd hg S28 => ?_).out⟩
      refine ret _ _ _ _ _ _ S28 ⟨d, rfl, fun h hq => hf h fun q h2 => hq q (List.mem_append_left _ h2), FD.more hmd (FD.ok hmd hfd gd13), ?_⟩
      intro P ps hm
      match P, ps, hm with
      | _, _, .head _ => exact ⟨_, List.mem_append_right _ (.head _)⟩
      | _, _, .tail _ (.head _) => exact ⟨_, List.mem_append_right _ (.tail _ (.head _))⟩
      | _, _, .tail _ (.tail _ (.head _)) => exact ⟨_, List.mem_append_right _ (.tail _ (.tail _ (.head _)))⟩
      | _, _, .tail _ (.tail _ (.tail _ (.head _))) => exact ⟨_, List.mem_append_right _ (.tail _ (.tail _ (.tail _ (.head _))))⟩
      | _, _, .tail _ (.tail _ (.tail _ (.tail _ (.head _)))) => exact (hg 165 _ (.head _)).elim fun p h => ⟨p, List.mem_append_left _ h⟩
      | _, _, .tail _ (.tail _ (.tail _ (.tail _ (.tail _ (.head _))))) => exact (hg 102 _ (.tail _ (.head _))).elim fun p h => ⟨p, List.mem_append_left _ h⟩
    have S_13 := S_12.grow s2
    refine x_if (Ts.eq (Ev.loc N' S_13 .hd) (Ev.fd N' C' S_13 (.head _) (by k_is))) (fun hc h2 tk2 s2 => ?_) fun hc14 h2 tk2 s2 => x_nil (Nx.go ?_)
    · have hkc : kind = 14 := by simpa using hc
      exact absurd hkc hk.2
    have S_14 := S_13.grow s2
    refine x_if (Ts.eq (Ev.loc N' S_14 .hd) (Ev.fd N' C' S_14 (.head _) (by k_is))) (fun hc h2 tk2 s2 => ?_) fun hc15 h2 tk2 s2 => x_nil (Nx.go ?_)
    · have hkc : kind = 15 := by simpa using hc
      subst hkc
      obtain ⟨rfl, rfl⟩ := kw_15 hk
      have S2 := S_14.grow s2
      refine x_retW (c_fn (a := 264) (Ev.glob N' C' S2 (by k_is) (.tail _ (.tail _ (.tail _ (.tail _ (.tail _ (.tail _ (.tail _ (.tail _ (.tail _ (.tail _ (.head _))))))))))) rfl) fun h3 tk3 s3 => ?_)
      have S3 := S2.grow s3
      refine sp_p (Ev.loc N' S3 (.tl .hd)) fun v20 h20 tk20 n20 s20 => sp_p (Ev.loc N' (S3.grow s20) (.tl (.tl .hd))) fun v21 h21 tk21 n21 s21 => sp_p (Ev.loc N' ((S3.grow s20).grow s21) (.tl (.tl (.tl .hd)))) fun v22 h22 tk22 n22 s22 => sp_p (Ev.loc N' (((S3.grow s20).grow s21).grow s22) (.tl (.tl (.tl (.tl .hd))))) fun v23 h23 tk23 n23 s23 => sp_p (Ev.loc N' ((((S3.grow s20).grow s21).grow s22).grow s23) (.tl (.tl (.tl (.tl (.tl .hd)))))) fun v24 h24 tk24 n24 s24 => sp_p (Ev.loc N' (((((S3.grow s20).grow s21).grow s22).grow s23).grow s24) (.tl (.tl (.tl (.tl (.tl (.tl .hd))))))) fun v25 h25 tk25 n25 s25 => sp_n ?_
      obtain ⟨t20, rfl⟩ := nt_int n20
      obtain rfl := nt_bool n21
      obtain rfl := nt_bool n22
      obtain ⟨t23, rfl⟩ := nt_int n23
      obtain rfl := nt_ref n24
      obtain rfl := nt_bool n25
      have S26 := ((((((S3.grow s20).grow s21).grow s22).grow s23).grow s24).grow s25)
      have S27 : St g L' _ _ _ ([(179, tabObj #[]), (165, tabObj #[])] ++ ((102, tabObj #[]) :: [(298, tabObj #[]), (290, tabObj #[]), (172, tabObj #[])])) := S26.perm (fun q hq => match q, hq with
        | _, .head _ => .tail _ (.tail _ (.head _))
        | _, .tail _ (.head _) => .tail _ (.tail _ (.tail _ (.tail _ (.head _))))
        | _, .tail _ (.tail _ (.head _)) => .tail _ (.tail _ (.tail _ (.tail _ (.tail _ (.head _)))))
        | _, .tail _ (.tail _ (.tail _ (.head _))) => .head _
        | _, .tail _ (.tail _ (.tail _ (.tail _ (.head _)))) => .tail _ (.head _)
        | _, .tail _ (.tail _ (.tail _ (.tail _ (.tail _ (.head _))))) => .tail _ (.tail _ (.tail _ (.head _)))) (by decide)
      refine ⟨fnAt_K C' S26 (by k_is), ((xd_15 hmd).run num clr t20 t23 hnum C' S27 fun d dl h28 tk28 hf hfd hg S28 => ?_).out⟩
      refine ret _ _ _ _ _ _ S28 ⟨d, rfl, fun h hq => hf h fun q h2 => hq q (List.mem_append_left _ h2), FD.more hmd (FD.ok hmd hfd gd15), ?_⟩
      intro P ps hm
      match P, ps, hm with
      | _, _, .head _ => exact ⟨_, List.mem_append_right _ (.head _)⟩
      | _, _, .tail _ (.head _) => exact ⟨_, List.mem_append_right _ (.tail _ (.head _))⟩
      | _, _, .tail _ (.tail _ (.head _)) => exact (hg 179 _ (.head _)).elim fun p h => ⟨p, List.mem_append_left _ h⟩
      | _, _, .tail _ (.tail _ (.tail _ (.head _))) => exact ⟨_, List.mem_append_right _ (.tail _ (.tail _ (.head _)))⟩
      | _, _, .tail _ (.tail _ (.tail _ (.tail _ (.head _)))) => exact (hg 165 _ (.tail _ (.head _))).elim fun p h => ⟨p, List.mem_append_left _ h⟩
      | _, _, .tail _ (.tail _ (.tail _ (.tail _ (.tail _ (.head _))))) => exact (hg 102 _ (.tail _ (.tail _ (.head _)))).elim fun p h => ⟨p, List.mem_append_left _ h⟩
    have S_15 := S_14.grow s2
    refine x_if (Ts.eq (Ev.loc N' S_15 .hd) (Ev.fd N' C' S_15 (.head _) (by k_is))) (fun hc h2 tk2 s2 => ?_) fun hc16 h2 tk2 s2 => x_nil (Nx.go ?_)
    · have hkc : kind = 16 := by simpa using hc
      subst hkc
      obtain ⟨rfl, rfl⟩ := kw_16 hk
      have S2 := S_15.grow s2
      refine x_retW (c_fn (a := 272) (Ev.glob N' C' S2 (by k_is) (.tail _ (.tail _ (.tail _ (.tail _ (.tail _ (.tail _ (.tail _ (.tail _ (.tail _ (.tail _ (.tail _ (.head _)))))))))))) rfl) fun h3 tk3 s3 => ?_)
      have S3 := S2.grow s3
      refine sp_p (Ev.loc N' S3 (.tl .hd)) fun v20 h20 tk20 n20 s20 => sp_p (Ev.loc N' (S3.grow s20) (.tl (.tl .hd))) fun v21 h21 tk21 n21 s21 => sp_p (Ev.loc N' ((S3.grow s20).grow s21) (.tl (.tl (.tl .hd)))) fun v22 h22 tk22 n22 s22 => sp_p (Ev.loc N' (((S3.grow s20).grow s21).grow s22) (.tl (.tl (.tl (.tl .hd))))) fun v23 h23 tk23 n23 s23 => sp_p (Ev.loc N' ((((S3.grow s20).grow s21).grow s22).grow s23) (.tl (.tl (.tl (.tl (.tl .hd)))))) fun v24 h24 tk24 n24 s24 => sp_p (Ev.loc N' (((((S3.grow s20).grow s21).grow s22).grow s23).grow s24) (.tl (.tl (.tl (.tl (.tl (.tl .hd))))))) fun v25 h25 tk25 n25 s25 => sp_n ?_
      obtain ⟨t20, rfl⟩ := nt_int n20
      obtain rfl := nt_bool n21
      obtain rfl := nt_bool n22
      obtain ⟨t23, rfl⟩ := nt_int n23
      obtain rfl := nt_ref n24
      obtain rfl := nt_bool n25
      have S26 := ((((((S3.grow s20).grow s21).grow s22).grow s23).grow s24).grow s25)
      have S27 : St g L' _ _ _ ([(179, tabObj #[]), (165, tabObj #[])] ++ ((102, tabObj #[]) :: [(298, tabObj #[]), (290, tabObj #[]), (172, tabObj #[])])) := S26.perm (fun q hq => match q, hq with
        | _, .head _ => .tail _ (.tail _ (.head _))
        | _, .tail _ (.head _) => .tail _ (.tail _ (.tail _ (.tail _ (.head _))))
        | _, .tail _ (.tail _ (.head _)) => .tail _ (.tail _ (.tail _ (.tail _ (.tail _ (.head _)))))
        | _, .tail _ (.tail _ (.tail _ (.head _))) => .head _
        | _, .tail _ (.tail _ (.tail _ (.tail _ (.head _)))) => .tail _ (.head _)
        | _, .tail _ (.tail _ (.tail _ (.tail _ (.tail _ (.head _))))) => .tail _ (.tail _ (.tail _ (.head _)))) (by decide)
      refine ⟨fnAt_K C' S26 (by k_is), ((xd_16 hmd).run num clr t20 t23 hnum C' S27 fun d dl h28 tk28 hf hfd hg S28 => ?_).out⟩
      refine ret _ _ _ _ _ _ S28 ⟨d, rfl, fun h hq => hf h fun q h2 => hq q (List.mem_append_left _ h2), FD.more hmd (FD.ok hmd hfd gd16), ?_⟩
      intro P ps hm
      match P, ps, hm with
      | _, _, .head _ => exact ⟨_, List.mem_append_right _ (.head _)⟩
      | _, _, .tail _ (.head _) => exact ⟨_, List.mem_append_right _ (.tail _ (.head _))⟩
      | _, _, .tail _ (.tail _ (.head _)) => exact (hg 179 _ (.head _)).elim fun p h => ⟨p, List.mem_append_left _ h⟩
      | _, _, .tail _ (.tail _ (.tail _ (.head _))) => exact ⟨_, List.mem_append_right _ (.tail _ (.tail _ (.head _)))⟩
      | _, _, .tail _ (.tail _ (.tail _ (.tail _ (.head _)))) => exact (hg 165 _ (.tail _ (.head _))).elim fun p h => ⟨p, List.mem_append_left _ h⟩
      | _, _, .tail _ (.tail _ (.tail _ (.tail _ (.tail _ (.head _))))) => exact (hg 102 _ (.tail _ (.tail _ (.head _)))).elim fun p h => ⟨p, List.mem_append_left _ h⟩
    have S_16 := S_15.grow s2
    refine x_if (Ts.eq (Ev.loc N' S_16 .hd) (Ev.fd N' C' S_16 (.head _) (by k_is))) (fun hc h2 tk2 s2 => ?_) fun hc17 h2 tk2 s2 => x_nil (Nx.go ?_)
    · have hkc : kind = 17 := by simpa using hc
      subst hkc
      obtain ⟨rfl, rfl⟩ := kw_17 hk
      have S2 := S_16.grow s2
      refine x_retW (c_fn (a := 232) (Ev.glob N' C' S2 (by k_is) (.tail _ (.tail _ (.tail _ (.tail _ (.tail _ (.tail _ (.tail _ (.tail _ (.tail _ (.tail _ (.tail _ (.tail _ (.head _))))))))))))) rfl) fun h3 tk3 s3 => ?_)
      have S3 := S2.grow s3
      refine sp_p (Ev.loc N' S3 (.tl .hd)) fun v20 h20 tk20 n20 s20 => sp_p (Ev.loc N' (S3.grow s20) (.tl (.tl .hd))) fun v21 h21 tk21 n21 s21 => sp_p (Ev.loc N' ((S3.grow s20).grow s21) (.tl (.tl (.tl .hd)))) fun v22 h22 tk22 n22 s22 => sp_p (Ev.loc N' (((S3.grow s20).grow s21).grow s22) (.tl (.tl (.tl (.tl .hd))))) fun v23 h23 tk23 n23 s23 => sp_p (Ev.loc N' ((((S3.grow s20).grow s21).grow s22).grow s23) (.tl (.tl (.tl (.tl (.tl .hd)))))) fun v24 h24 tk24 n24 s24 => sp_p (Ev.loc N' (((((S3.grow s20).grow s21).grow s22).grow s23).grow s24) (.tl (.tl (.tl (.tl (.tl (.tl .hd))))))) fun v25 h25 tk25 n25 s25 => sp_n ?_
      obtain ⟨t20, rfl⟩ := nt_int n20
      obtain rfl := nt_bool n21
      obtain rfl := nt_bool n22
      obtain ⟨t23, rfl⟩ := nt_int n23
      obtain rfl := nt_ref n24
      obtain rfl := nt_bool n25
      have S26 := ((((((S3.grow s20).grow s21).grow s22).grow s23).grow s24).grow s25)
      have S27 : St g L' _ _ _ ([(172, tabObj #[]), (165, tabObj #[])] ++ ((102, tabObj #[]) :: [(298, tabObj #[]), (290, tabObj #[]), (179, tabObj #[])])) := S26.perm (fun q hq => match q, hq with
        | _, .head _ => .tail _ (.tail _ (.tail _ (.head _)))
        | _, .tail _ (.head _) => .tail _ (.tail _ (.tail _ (.tail _ (.head _))))
        | _, .tail _ (.tail _ (.head _)) => .tail _ (.tail _ (.tail _ (.tail _ (.tail _ (.head _)))))
        | _, .tail _ (.tail _ (.tail _ (.head _))) => .head _
        | _, .tail _ (.tail _ (.tail _ (.tail _ (.head _)))) => .tail _ (.head _)
        | _, .tail _ (.tail _ (.tail _ (.tail _ (.tail _ (.head _))))) => .tail _ (.tail _ (.head _))) (by decide)
      refine ⟨fnAt_K C' S26 (by k_is), ((xd_17 hmd).run num clr t20 t23 hnum C' S27 fun d dl h28 tk28 hf hfd hg S28 => ?_).out⟩
      refine ret _ _ _ _ _ _ S28 ⟨d, rfl, fun h hq => hf h fun q h2 => hq q (List.mem_append_left _ h2), FD.more hmd (FD.ok hmd hfd gd17), ?_⟩
      intro P ps hm
      match P, ps, hm with
      | _, _, .head _ => exact ⟨_, List.mem_append_right _ (.head _)⟩
      | _, _, .tail _ (.head _) => exact ⟨_, List.mem_append_right _ (.tail _ (.head _))⟩
      | _, _, .tail _ (.tail _ (.head _)) => exact ⟨_, List.mem_append_right _ (.tail _ (.tail _ (.head _)))⟩
      | _, _, .tail _ (.tail _ (.tail _ (.head _))) => exact (hg 172 _ (.head _)).elim fun p h => ⟨p, List.mem_append_left _ h⟩
      | _, _, .tail _ (.tail _ (.tail _ (.tail _ (.head _)))) => exact (hg 165 _ (.tail _ (.head _))).elim fun p h => ⟨p, List.mem_append_left _ h⟩
      | _, _, .tail _ (.tail _ (.tail _ (.tail _ (.tail _ (.head _))))) => exact (hg 102 _ (.tail _ (.tail _ (.head _)))).elim fun p h => ⟨p, List.mem_append_left _ h⟩
    have S_17 := S_16.grow s2
    refine x_if (Ts.eq (Ev.loc N' S_17 .hd) (Ev.fd N' C' S_17 (.head _) (by k_is))) (fun hc h2 tk2 s2 => ?_) fun hc18 h2 tk2 s2 => x_nil (Nx.go ?_)
    · have hkc : kind = 18 := by simpa using hc
      subst hkc
      obtain ⟨rfl, rfl⟩ := kw_18 hk
      have S2 := S_17.grow s2
      refine x_retW (c_fn (a := 240) (Ev.glob N' C' S2 (by k_is) (.tail _ (.tail _ (.tail _ (.tail _ (.tail _ (.tail _ (.tail _ (.tail _ (.tail _ (.tail _ (.tail _ (.tail _ (.tail _ (.head _)))))))))))))) rfl) fun h3 tk3 s3 => ?_)
      have S3 := S2.grow s3
      refine sp_p (Ev.loc N' S3 (.tl .hd)) fun v20 h20 tk20 n20 s20 => sp_p (Ev.loc N' (S3.grow s20) (.tl (.tl .hd))) fun v21 h21 tk21 n21 s21 => sp_p (Ev.loc N' ((S3.grow s20).grow s21) (.tl (.tl (.tl .hd)))) fun v22 h22 tk22 n22 s22 => sp_p (Ev.loc N' (((S3.grow s20).grow s21).grow s22) (.tl (.tl (.tl (.tl .hd))))) fun v23 h23 tk23 n23 s23 => sp_p (Ev.loc N' ((((S3.grow s20).grow s21).grow s22).grow s23) (.tl (.tl (.tl (.tl (.tl .hd)))))) fun v24 h24 tk24 n24 s24 => sp_p (Ev.loc N' (((((S3.grow s20).grow s21).grow s22).grow s23).grow s24) (.tl (.tl (.tl (.tl (.tl (.tl .hd))))))) fun v25 h25 tk25 n25 s25 => sp_n ?_
      obtain ⟨t20, rfl⟩ := nt_int n20
      obtain rfl := nt_bool n21
      obtain rfl := nt_bool n22
      obtain ⟨t23, rfl⟩ := nt_int n23
      obtain rfl := nt_ref n24
      obtain rfl := nt_bool n25
      have S26 := ((((((S3.grow s20).grow s21).grow s22).grow s23).grow s24).grow s25)
      have S27 : St g L' _ _ _ ([(172, tabObj #[]), (165, tabObj #[])] ++ ((102, tabObj #[]) :: [(298, tabObj #[]), (290, tabObj #[]), (179, tabObj #[])])) := S26.perm (fun q hq => match q, hq with
        | _, .head _ => .tail _ (.tail _ (.tail _ (.head _)))
        | _, .tail _ (.head _) => .tail _ (.tail _ (.tail _ (.tail _ (.head _))))
        | _, .tail _ (.tail _ (.head _)) => .tail _ (.tail _ (.tail _ (.tail _ (.tail _ (.head _)))))
        | _, .tail _ (.tail _ (.tail _ (.head _))) => .head _
        | _, .tail _ (.tail _ (.tail _ (.tail _ (.head _)))) => .tail _ (.head _)
        | _, .tail _ (.tail _ (.tail _ (.tail _ (.tail _ (.head _))))) => .tail _ (.tail _ (.head _))) (by decide)
      refine ⟨fnAt_K C' S26 (by k_is), ((xd_18 hmd).run num clr t20 t23 hnum C' S27 fun d dl h28 tk28 hf hfd hg S28 => ?_).out⟩
      refine ret _ _ _ _ _ _ S28 ⟨d, rfl, fun h hq => hf h fun q h2 => hq q (List.mem_append_left _ h2), FD.more hmd (FD.ok hmd hfd gd18), ?_⟩
      intro P ps hm
      match P, ps, hm with
      | _, _, .head _ => exact ⟨_, List.mem_append_right _ (.head _)⟩
      | _, _, .tail _ (.head _) => exact ⟨_, List.mem_append_right _ (.tail _ (.head _))⟩
      | _, _, .tail _ (.tail _ (.head _)) => exact ⟨_, List.mem_append_right _ (.tail _ (.tail _ (.head _)))⟩
      | _, _, .tail _ (.tail _ (.tail _ (.head _))) => exact (hg 172 _ (.head _)).elim fun p h => ⟨p, List.mem_append_left _ h⟩
      | _, _, .tail _ (.tail _ (.tail _ (.tail _ (.head _)))) => exact (hg 165 _ (.tail _ (.head _))).elim fun p h => ⟨p, List.mem_append_left _ h⟩
      | _, _, .tail _ (.tail _ (.tail _ (.tail _ (.tail _ (.head _))))) => exact (hg 102 _ (.tail _ (.tail _ (.head _)))).elim fun p h => ⟨p, List.mem_append_left _ h⟩
    have S_18 := S_17.grow s2
    exfalso
    refine kw_end hk ⟨by simpa using hc3, by simpa using hc4, by simpa using hc5, by simpa using hc6, by simpa using hc7, by simpa using hc8, by simpa using hc9, by simpa using hc12, by simpa using hc13, by simpa using hc15, by simpa using hc16, by simpa using hc17, by simpa using hc18⟩
  · rintro v h' tk' nw ⟨d, rfl, hf, hfd, hg⟩ S'
    exact k d nw h' tk' hf hfd hg S'
end
end Mine
end
section
open PySem PySem.Spec PySem.Calls PySem.W PyProof.Rows
set_option maxRecDepth 100000
set_option maxHeartbeats 4000000
set_option linter.unusedVariables false
namespace Mine
theorem slot_brepr : Slot "bytes" "__repr__" "bytes.__repr__" :=
  .of (owner := "bytes") (n := "__repr__") (by rw [typeLookup_type, builtinLookup_eq_fast]; kernel_rfl) (by decide +kernel) (by decide +kernel) (by decide +kernel)
    (by first | exact .inl (by decide +kernel) | exact .inr (by decide +kernel)) (by rw [isSubtype_type]; kernel_rfl)
theorem entry_brepr : entryFor table "bytes.__repr__" = some Builtin.«bytes.__repr__» := entryFor_of_tree (by kernel_rfl)
theorem args_brepr (a : Value) : argsOk "bytes.__repr__" ⟨[a], []⟩ := by unfold argsOk; kernel_rfl
theorem lit_fold (f : UInt8 → Array Nat) (hf : ∀ c, (f c).size ≤ 4) : ∀ (l : List UInt8) (acc : Array Nat), (l.foldl (fun acc c => acc ++ f c) acc).size ≤ acc.size + 4 * l.length
  | [], acc => by simp
  | c :: r, acc => by
    rw [List.foldl_cons]
    have := lit_fold f hf r (acc ++ f c)
    have h2 := hf c
    rw [Array.size_append] at this
    rw [List.length_cons]
    omega
theorem lit_len (b : Array UInt8) : (Builtin.Bytes.literal b).length ≤ 4 * b.size + 3 := by
  show (Builtin.Bytes.literal b).cps.size ≤ _
  unfold Builtin.Bytes.literal
  dsimp only
  rw [Array.size_push, ← Array.foldl_toList]
  refine Nat.le_trans (Nat.succ_le_succ (lit_fold _ (fun c => ?_) b.toList _)) ?_
  · repeat' split
    all_goals simp
  · simp only [Array.length_toList, List.size_toArray, List.length_cons, List.length_nil]
    omega
theorem gives_brepr (b : Array UInt8) (t : Tok) (hz : b.size ≤ 100) : Gives (Builtin.«bytes.__repr__» ⟨[.bytes b t], []⟩) (.str (Builtin.Bytes.literal b)) := by
  refine .of_wp fun M A E s Q hq => ?_
  unfold Builtin.«bytes.__repr__»
  refine wpAny_bind (wpAny_of_eq (a := (.bytes b t, [])) (by first | rfl | kernel_rfl) ?_)
  dsimp only
  refine wpAny_bind (wpAny_of_eq (a := b) (by first | rfl | kernel_rfl) ?_)
  unfold Builtin.Bytes.literalAsked
  refine wpAny_bind ?_
  have h0 : Builtin.Bytes.tooLong (4 * b.size + 3 + 0) = false := by
    unfold Builtin.Bytes.tooLong
    rw [sizeLine_eq]
    exact decide_eq_false (by omega)
  rw [h0, Bool.false_and]
  simp only [Bool.false_eq_true, if_false]
  refine wpAny_pure ?_
  exact wpAny_bind (wpAny_mkStr (wpAny_pure ⟨_, rfl, hq.2⟩) hq.1)
theorem ReprIs_bytes {prog : Program} {w : World} (b : Array UInt8) (t : Tok) (hz : b.size ≤ 100) : ReprIs prog w (.bytes b t) (Builtin.Bytes.literal b) := fun n hn _ _ _ _ h => by
  have hn' : n ≤ sizeLine := by omega
  have hx : (Builtin.Bytes.literal b).length ≤ sizeLine := by have := lit_len b; rw [sizeLine_eq]; omega
  rw [pyReprUnder_leaf (v := .bytes b t) hn' (fun _ e => nomatch e)]
  unfold pyRepr
  exact wpAny_bind (wpAny_pyReprObj_gives (typeIs_bytes _ b t) slot_brepr entry_brepr (args_brepr _) (gives_brepr b t hz) (wpAny_pure (h _)) (hx := hx))

/-- the values that pieces tell -/
inductive VD : Value → Prop
  | int {n t} : n.natAbs < 2 ^ 65 → VD (.int n t)
  | bool {b} : VD (.bool b)
  | str {s u t} : SOk s u → VD (.str s t)
  | byt {b t} : b.size ≤ 4 → VD (.bytes b t)
def rtext : Value → Str
  | .int n _ => toString n
  | .bool b => if b then "True" else "False"
  | .str x _ => reprText x
  | .bytes b _ => Builtin.Bytes.literal b
  | _ => Str.empty
theorem rtext_nt (v : Value) : rtext (nt v) = rtext v := by cases v <;> rfl
theorem VD.tok {v v' : Value} (h : VD v) (e : nt v' = nt v) : VD v' := by
  cases h with
  | int q => obtain ⟨t, rfl⟩ := nt_int e; exact .int q
  | bool => obtain rfl := nt_bool e; exact .bool
  | str q => obtain ⟨t, rfl⟩ := nt_str e; exact .str q
  | byt q => obtain ⟨t, rfl⟩ := nt_bytes e; exact .byt q
theorem text_rlen {s : Str} {u : List UInt8} (q : SOk s u) : (reprText s).length ≤ 200 := by
  obtain ⟨b, hb, r, hr, rfl, rfl⟩ := q
  have h4 : r = 0 ∨ r = 1 ∨ r = 2 ∨ r = 3 := by omega
  simp only [texts, List.mem_cons, List.not_mem_nil, or_false] at hb
  rcases hb with rfl | rfl | rfl | rfl | rfl <;> rcases h4 with rfl | rfl | rfl | rfl <;> decide +kernel
theorem log2_65 {n : Nat} (h : n < 2 ^ 65) : n.log2 < 65 := by
  by_cases h0 : n = 0
  · subst h0; decide
  · exact (Nat.log2_lt h0).mpr h
theorem VD.repr {prog : Program} {w : World} {v : Value} (h : VD v) : ReprIs prog w v (rtext v) ∧ (rtext v).length ≤ 200 := by
  cases h with
  | @int n t q =>
    have hl := log2_65 q
    refine ⟨ReprIs.int t (by omega), ?_⟩
    have e := int_text_length_le (a := n) (k := 65) (by decide) hl
    show (Str.ofString (toString n)).length ≤ 200
    rw [PySem.ofString_length]; omega
  | @bool b => exact ⟨ReprIs.bool b, by cases b <;> decide⟩
  | @str s u t q => exact ⟨ReprIs.str s t (by have := text_rlen q; rw [sizeLine_eq]; omega), text_rlen q⟩
  | @byt b t q => exact ⟨ReprIs_bytes b t (by omega), by have := lit_len b; show (Builtin.Bytes.literal b).length ≤ 200; omega⟩
open SeqAt in
theorem EqAt_bytes {A : Around} {s : Shared} (b : Array UInt8) (t u : Tok) : SeqAt.EqAt A s (.bytes b t) (.bytes b u) true := fun prog w E Q h => by
  unfold eqBool
  refine wpAny_holding ?_
  refine wpAny_ite_split (fun hab => ?_) (fun hab => ?_)
  · exact wpAny_bind (wpAny_rule (wpAny_pure h))
  · exact wpAny_bind (richCompare_gives (op := .Eq) (T := "bytes") rfl rfl FB.slot_bytes_eq FB.entry_bytes_eq (FB.args_bytes_eq_2 _ _) (gives_bytes_eq b b t u) (fun x => nomatch x) (wpAny_truthy_bool (by simpa using h)))
theorem VD.eqAt {A : Around} {s : Shared} {v v' : Value} (h : VD v) (e : nt v' = nt v) : SeqAt.EqAt A s v v' true := by
  cases h with
  | @int n t q => obtain ⟨t', rfl⟩ := nt_int e; have := SeqAt.EqAt.int_int (A := A) (s := s) n t n t'; rwa [beq_self_eq_true] at this
  | @bool b => obtain rfl := nt_bool e; exact SeqAt.EqAt.same _
  | @str x u t q => obtain ⟨t', rfl⟩ := nt_str e; have := SeqAt.EqAt.str_str (A := A) (s := s) x t x t'; rwa [beq_self_eq_true] at this
  | @byt b t q => obtain ⟨t', rfl⟩ := nt_bytes e; exact EqAt_bytes b t t'
theorem lists_eqAt {A : Around} {s : Shared} {l b : Addr} {xs ys : List Value} (hl : s.heap.IsList l xs.toArray) (hb : s.heap.IsList b ys.toArray) (hv : ∀ v ∈ xs, VD v) (e : ys.map nt = xs.map nt) (hu : A.units < cLine) : SeqAt.EqAt A s (.ref l) (.ref b) true := by
  by_cases hne : l = b
  · subst hne; exact SeqAt.EqAt.same _
  · have hlen : xs.length = ys.length := by have := congrArg List.length e; simpa using this.symm
    refine SeqAt.EqAt.of_refs hne ?_
    have h := SeqAt.RcAt.lists (e := fun _ => true) hl hb (by simpa using hlen) hu (fun j h1 h2 => ?_)
    · have e2 : (List.range xs.toArray.size).all (fun _ => true) = true := by simp
      rwa [e2] at h
    · have h1' : j < xs.length := by simpa using h1
      have h2' : j < ys.length := by simpa using h2
      have en : nt ys[j] = nt xs[j] := by
        have := congrArg (fun l => l[j]?) e
        simpa [h1', h2'] using this
      simpa using VD.eqAt (A := A.in1) (s := s) (hv _ (List.getElem_mem h1')) en
theorem Good.vd {k b : Int} {v : Value} {os : List UInt8} (h : Good k b v os) : VD v := by
  have e : ∀ (b : Nat) (raw : Nat), b ≤ 64 → 0 < b → (sgn b raw).natAbs < 2 ^ 65 := by
    intro b raw hb h0
    have h1 : raw % 2 ^ b < 2 ^ b := Nat.mod_lt _ (Nat.two_pow_pos b)
    have h2 : 2 ^ b ≤ 2 ^ 64 := Nat.pow_le_pow_right (by decide) hb
    have h3 : ((2 ^ b : Nat) : Int) = (2 : Int) ^ b := by push_cast; rfl
    unfold sgn
    split
    · rw [← h3]; omega
    · omega
  have z : ∀ m : Nat, m < 2 ^ 64 → (zz m).natAbs < 2 ^ 65 := by
    intro m hm
    unfold zz
    split <;> omega
  rcases h with ⟨raw, h1, h2, h3⟩ | ⟨h1, h2, h3⟩
  · cases h3 with
    | k3 => exact .int (e 64 raw (by decide) (by decide))
    | k5 => exact .int (e 32 raw (by decide) (by decide))
    | k4 => exact .int (by have := Nat.mod_lt raw (show 0 < 2 ^ 64 by decide); omega)
    | k13 => exact .int (by have := Nat.mod_lt raw (show 0 < 2 ^ 32 by decide); omega)
    | k17 => exact .int (z _ (Nat.lt_trans (Nat.mod_lt raw (show 0 < 2 ^ 32 by decide)) (by decide)))
    | k18 => exact .int (z _ (Nat.mod_lt raw (show 0 < 2 ^ 64 by decide)))
    | k8 => exact .bool
  · cases h2 with
    | bool => exact .bool
    | str q => exact .str q
    | byt q => exact .byt q
    | @uns _ n t b _ hb h0 h1 =>
      rcases hb with rfl | rfl
      · exact .int (by omega)
      · exact .int (by omega)
    | @sig _ n t b _ hb h0 h1 =>
      rcases hb with rfl | rfl
      · exact .int (by omega)
      · exact .int (by omega)
end Mine
end
section
open PySem PySem.Spec PySem.Calls PySem.W PyProof.Rows
open LCg (NsObj ns_obj fr_but)
set_option maxRecDepth 100000
set_option maxHeartbeats 4000000
set_option linter.unusedVariables false
namespace Mine
abbrev dict0 : Obj := { cls := .type "dict", data := .dict #[] }
theorem dict0_of {prog : Program} {w : World} {K : Type} [DecidableEq K] {knd : KeyKind prog w K} : dict0.IsDictOf knd [] := by
  obtain ⟨o, ho, hd⟩ := Heap.dictOf_iff.mp (Heap.DictOf.new (knd := knd) {})
  have : (({} : Heap).push dict0).get? ({} : Heap).objs.size = some dict0 := Heap.get?_push_size _ rfl
  rw [this] at ho
  cases ho
  exact hd

section
variable {prog : Program} {w : World} {loose : List Str} {mean : ExcName → Option Value} {mg mb : Str → Option Value} {A A₀ : Around} {env cenv : Env} {outer : List Env} {base h₀ h : Heap} {L D : Addr} {lv : Nat} {ns gl : List Str} {vs vs1 vs2 : List (Option Value)} {news nw foot rest dl tl Kp cl : List (Addr × Obj)} {x y n1 n2 : Str} {v u : Value} {p p1 p2 p3 p4 p' np cpos : Pos} {kk : Nat}
variable {gs : Array GenState} {dr : Drawn} {tk : Nat} {os : OsState} {Q E : Value → Shared → Prop} {QB : Bool → Shared → Prop} {QF : Flow → Shared → Prop} {e e1 e2 i o a b ek ev : Expr} {pos : Pos} {elts : List Expr} {rst : List Stmt} {s : Shared} {n : Int} {od : Obj} {kvs : List (Int × Value)}

/-- {} -/
theorem w_dict0 (lo : sysModules < h₀.objs.size) (S : St h₀ L h ns vs news) (k : ∀ D h', (D == sysModules) = false → St h₀ L h' ns vs ((D, dict0) :: news) → h.StaysIn h' → Q (.ref D) ⟨h', gs, dr, tk, os⟩) :
    WP prog w A (eval (.Dict [] [] p) env) Q E ⟨h, gs, dr, tk, os⟩ :=
  .mk (by (with_reducible refine wpAny_Dict_empty ?_); exact k _ _ (S.elim fun m F _ => F.notModules lo) (S.push dict0) fun b o' e => Heap.get?_push_of_some _ e)
/-- {k: v} -/
theorem w_dict1 (lo : sysModules < h₀.objs.size) (S : St h₀ L h ns vs news) (qk : ∀ h', h.StaysIn h' → Ev prog w A env h' ek (.int n 0))
    (q : ∀ D h' tk', (D == sysModules) = false → St h₀ L h' ns vs ((D, dict0) :: news) → h.StaysIn h' → WP prog w A (eval ev env) (fun v s₁ => ∃ h2 tk2 news2, s₁ = ⟨h2, gs, dr, tk2, os⟩ ∧ St h₀ L h2 ns vs ((D, dict0) :: news2) ∧
      ∀ od h3 tk3, od.IsDictOf (intKind prog w) [(n, v)] → St h₀ L h3 ns vs ((D, od) :: news2) → Q (.ref D) ⟨h3, gs, dr, tk3, os⟩) E ⟨h', gs, dr, tk', os⟩) :
    WP prog w A (eval (.Dict [some ek] [ev] p) env) Q E ⟨h, gs, dr, tk, os⟩ := .mk (by
  refine wpAny_Dict_walk (knd := intKind prog w) rfl rfl (by simp) (by simp) (pairTrees_cons_walk ?_)
  have hst : h.StaysIn (h.push dict0) := fun b o' e => Heap.get?_push_of_some _ e
  have S1 := S.push dict0
  refine ((qk _ hst).use _ (stays_refl _) gs dr tk os _ _ fun kv h2 tk2 e2 s2 => ?_).out
  obtain ⟨t2, rfl⟩ := nt_int e2
  refine wpAny_mono (q h.objs.size h2 tk2 (S.elim fun m F _ => F.notModules lo) (S1.grow s2) (stays_trans hst s2)).out (fun v s₁ h₁ => ?_) fun _ _ x => x
  obtain ⟨h3, tk3, news2, rfl, S3, k⟩ := h₁
  refine pairTrees_nil_walk ⟨[(n, v)], ⟨isInt_of, rfl, trivial⟩, Heap.dictOf_iff.mpr ⟨_, S3.get (.head _), dict0_of⟩, fun h' hmm hs => ?_⟩
  obtain ⟨o', ho', hd'⟩ := Heap.dictOf_iff.mp hmm
  exact k o' h' _ (by simpa [merged, stored] using hd') (S3.but .hd (fun b x hb e => (hs.2 b hb).trans e) ho'))

theorem units_lt (C : Cx w loose mean mg mb A env outer A₀ base h₀ L lv) : A.units < cLine := by have := C.units; show A.units < 9900; omega
/-- both sides' pairs as equal -/
theorem c_dcmp {oa ob : Obj} {ka kb : List (Int × Value)} {da db : Addr} {r : Bool} (ne : Bool) (C : Cx w loose mean mg mb A env outer A₀ base h₀ L lv) (S : St h₀ L h ns vs news) (ha : (da, oa) ∈ news) (hb : (db, ob) ∈ news) (la : (da == sysModules) = false) (lb : (db == sysModules) = false)
    (hka : oa.IsDictOf (intKind prog w) ka) (hkb : ob.IsDictOf (intKind prog w) kb) (hits : ka.length = kb.length → KeqHits A.in1 ⟨h, gs, dr, tk, os⟩ kb ka r) (k : Q (.bool (ne != (ka.length == kb.length && r))) ⟨h, gs, dr, tk, os⟩) :
    WP prog w A (compareOp (if ne then .NotEq else .Eq) (.ref da) (.ref db)) Q E ⟨h, gs, dr, tk, os⟩ := .mk (by
  have d1 : Heap.DictOf (intKind prog w) h da ka := Heap.dictOf_iff.mpr ⟨_, S.get ha, hka⟩
  have d2 : Heap.DictOf (intKind prog w) h db kb := Heap.dictOf_iff.mpr ⟨_, S.get hb, hkb⟩
  cases ne with
  | true => exact keq_ne la lb d1 d2 (units_lt C) hits (by simpa using k)
  | false => exact keq_eq la lb d1 d2 (units_lt C) hits (by simpa using k))

/-- D[n] of names -/
theorem w_ditem {px py : Pos} (S : St h₀ L h ns vs news) (hm : (D, od) ∈ news) (hd : od.IsDictOf (intKind prog w) kvs) (hl : valueAt kvs n = some v) (qo : Ev prog w A env h (.Name x px) (.ref D)) (qi : Ev prog w A env h (.Name y py) (.int n 0))
    (k : ∀ h' tk', h.StaysIn h' → Q v ⟨h', gs, dr, tk', os⟩) : WP prog w A (eval (.Subscript (.Name x px) (.Name y py) p) env) Q E ⟨h, gs, dr, tk, os⟩ := .mk (by
  (with_reducible refine Subscript_ (qo.use h (stays_refl h) gs dr tk os _ _ fun ov h2 tk2 e2 s2 => (qi.use h2 s2 gs dr tk2 os _ _ fun iv h3 tk3 e3 s3 => ?_).out).out)
  obtain rfl := nt_ref e2
  obtain ⟨t3, rfl⟩ := nt_int e3
  have S3 := (S.grow s2).grow s3
  exact S3.elim fun m F _ => kda_item (s := ⟨h3, gs, dr, tk3, os⟩) S3.nw hm hd isInt_of hl (k _ _ (stays_trans s2 s3)))

def ltext (xs : List Value) : Str := if xs.isEmpty then "[]" else listText (xs.map rtext)
theorem ltext_nt {xs ys : List Value} (e : ys.map nt = xs.map nt) : ltext ys = ltext xs := by
  have h : ∀ zs : List Value, zs.map rtext = (zs.map nt).map rtext := fun zs => by rw [List.map_map]; exact List.map_congr_left fun v _ => (rtext_nt v).symm
  have hl : xs.isEmpty = ys.isEmpty := by
    have := congrArg List.length e
    rw [List.length_map, List.length_map] at this
    cases xs <;> cases ys <;> simp at this ⊢
  unfold ltext
  rw [h xs, h ys, e, hl]
/-- repr of a list -/
theorem c_repr {xs : List Value} {k0 : Nat} {l : Addr} (hg : A.guards = some []) (C : Cx w loose mean mg mb A env outer A₀ base h₀ L lv) (S : St h₀ L h ns vs news) (hm : (l, listOf xs.toArray k0) ∈ news) (hv : ∀ v ∈ xs, VD v) (hz : xs.length ≤ 100)
    (k : ∀ h' t tk', h.StaysIn h' → Q (.str (ltext xs) t) ⟨h', gs, dr, tk', os⟩) : WP prog w A (PySem.call (.builtin "repr") [.ref l]) Q E ⟨h, gs, dr, tk, os⟩ := .mk (by
  have hget := S.get hm
  have hT : (Shared.mk h gs dr tk os).TypeIs (.ref l) "list" := ⟨_, hget, rfl⟩
  have hu := units_lt C
  refine call_repr_slot (by have := C.units; show A.units + 1 < 9900; omega) hT F.slot_list_repr.toG ?_
  cases xs with
  | nil =>
    refine call_list_repr_empty hT hget rfl ⟨_, _, rfl, ?_⟩
    exact k h _ _ (stays_refl h)
  | cons x l' =>
    refine call_list_repr (g := []) (x := x) (l := l') (ts := (x :: l').map rtext) hT hg (fun _ _ _ hm => nomatch hm) hget rfl (by simp) (fun i y hy => ?_) (fun h' u tk' hk => ⟨_, _, rfl, k h' u tk' hk⟩) ?_
    · rw [List.getElem?_toArray] at hy
      exact ⟨rtext y, by rw [List.getElem?_map, hy]; rfl, (VD.repr (hv y (List.mem_of_getElem? hy))).1⟩
    · have hs : ∀ zs : List Value, (∀ v ∈ zs, VD v) → ((zs.map rtext).map (·.length)).sum ≤ 200 * zs.length := by
        intro zs
        induction zs with
        | nil => intro _; simp
        | cons z zs ih =>
          intro hz
          have h1 := (VD.repr (prog := prog) (w := w) (hz z (.head _))).2
          have h2 := ih fun v hv => hz v (.tail _ hv)
          simp only [List.map_cons, List.sum_cons, List.length_cons]
          omega
      have h1 := textFrom_len_le ((x :: l').map rtext) 0 "["
      have h2 := hs _ hv
      have e : (listText ((x :: l').map rtext)).length = (textFrom 0 "[" ((x :: l').map rtext)).length + 1 := by
        show (textFrom 0 "[" ((x :: l').map rtext) ++ "]").length = _
        rw [strLen_append]; rfl
      rw [e, sizeLine_eq]
      have e2 : (Str.ofString "[").length = 1 := by decide
      rw [e2] at h1
      rw [List.length_map] at h1
      omega)

/-- list + list -/
theorem c_addL {xs ys : List Value} {k1 k2 : Nat} {l r : Addr} (S : St h₀ L h ns vs news) (ha : (l, listOf xs.toArray k1) ∈ news) (hb : (r, listOf ys.toArray k2) ∈ news) (hz : xs.length + ys.length ≤ 16777216)
    (k : ∀ D h', St h₀ L h' ns vs ((D, listOf (xs ++ ys).toArray 0) :: news) → h.StaysIn h' → Q (.ref D) ⟨h', gs, dr, tk, os⟩) : WP prog w A (binaryOp .Add (.ref l) (.ref r)) Q E ⟨h, gs, dr, tk, os⟩ := .mk (by
  have h1 : h.IsList l xs.toArray := PySem.IsL.isList (n := k1) (S.get ha)
  have h2 : h.IsList r ys.toArray := PySem.IsL.isList (n := k2) (S.get hb)
  refine concat_meets ⟨_, S.get ha, rfl⟩ ⟨_, S.get hb, rfl⟩ noFill_list_add seq_list_add PySem.F.slot_list_add PySem.F.entry_list_add (PySem.F.args_list_add_2 _ _) (list_addW l r xs.toArray ys.toArray k1 k2 none none #[] #[] (by rw [sizeLine_eq]; simpa using hz)) ⟨S.get ha, S.get hb, ?_⟩
  rw [show xs.toArray ++ ys.toArray = (xs ++ ys).toArray by simp]
  exact k _ _ (S.push (listOf (xs ++ ys).toArray 0)) fun b o' e => Heap.get?_push_of_some _ e)

/-- o.m() -/
theorem w_meth0 {name : Str} {pl : Sem Bool} (q : WP prog w A (eval o env) (fun ov s₁ => ∃ id first, wpAny (model prog w) A (getMethod ov name pl) (fun fx s₂ => fx = (.builtin id, first) ∧ s₂ = s₁) E s₁ ∧ WP prog w A (PySem.call (.builtin id) first) Q E s₁) E s)
    (hc : eval (.Call (.Attribute o name p) [] [] p') env = (do
        let ov ← eval o env
        standAt p.atName
        let __x ← holding [ov] (getMethod ov name pl)
        match __x with
          | (f, first) => callWith p' f first (backTo p' (starEach [] env)) [])) :
    WP prog w A (eval (.Call (.Attribute o name p) [] [] p') env) Q E s := .mk (by
  refine MethodCall_ (wpAny_mono q.out (fun ov s₁ h₁ => ?_) fun _ _ x => x) hc
  obtain ⟨id, first, hg, hq⟩ := h₁
  refine wpAny_mono hg (fun fx s₂ h₂ => ?_) fun _ _ x => x
  obtain ⟨rfl, rfl⟩ := h₂
  refine callWith_of (P := fun _ => True) rfl (fun h _ => ⟨_, .inr (.inl rfl), Looks.of_pure rfl⟩) ?_
  refine PyProof.Rows.evalArgs_nil3 ?_
  exact ⟨trivial, by rw [List.append_nil]; exact hq.out⟩)

theorem text_slen {s : Str} {u : List UInt8} (q : SOk s u) : s.length ≤ 100 := by
  obtain ⟨b, hb, r, hr, rfl, rfl⟩ := q
  have h4 : r = 0 ∨ r = 1 ∨ r = 2 ∨ r = 3 := by omega
  simp only [texts, List.mem_cons, List.not_mem_nil, or_false] at hb
  rcases hb with rfl | rfl | rfl | rfl | rfl <;> rcases h4 with rfl | rfl | rfl | rfl <;> decide +kernel
theorem truthy_vd {v' : Value} (hv : VD v) (hn : nt v' = nt v) (z : ∀ tk', QB (!isDef v) ⟨h, gs, dr, tk', os⟩) : WP prog w A (truthy v') QB E ⟨h, gs, dr, tk, os⟩ := .mk (by
  rw [← isDef_nt, ← hn, isDef_nt] at z
  have hv' := hv.tok hn
  cases hv' with
  | int _ => exact truthy_num (.inl ⟨_, _, rfl⟩) rfl z
  | bool => exact truthy_num (.inr ⟨_, rfl⟩) rfl z
  | @str s u t q =>
    have hl := text_slen q
    refine PySem.P.truthy_str (by omega) ?_
    have e : ((s.length : Int) != 0) = !isDef (.str s t) := by show _ = !(s.length == 0); cases h : s.length <;> simp [bne] <;> omega
    rw [e]; exact z _
  | @byt b t q =>
    refine truthy_bytes (by omega) ?_
    have e : ((b.size : Int) != 0) = !isDef (.bytes b t) := by show _ = !(b.size == 0); cases h : b.size <;> simp [bne] <;> omega
    rw [e]; exact z _)
end
end Mine
end
section
open PySem PySem.Spec PySem.Calls PySem.W PyProof.Rows
open LCg (NsObj ns_obj fr_but)
set_option maxRecDepth 100000
set_option maxHeartbeats 4000000
set_option linter.unusedVariables false
namespace Mine
/-- a list's pieces: tuples of octets and a value -/
def Pc (nw : List (Addr × Obj)) (v : Value) (p : List UInt8 × Value) : Prop := ∃ T t, v = .ref T ∧ (T, tupO [.bytes p.1.toArray t, p.2]) ∈ nw
inductive Pcs (nw : List (Addr × Obj)) : List Value → List (List UInt8 × Value) → Prop
  | nil : Pcs nw [] []
  | cons {v p vs ps} : Pc nw v p → Pcs nw vs ps → Pcs nw (v :: vs) (p :: ps)
theorem Pc.mono {nw nw' : List (Addr × Obj)} {v : Value} {p : List UInt8 × Value} (h : Pc nw v p) (s : ∀ q ∈ nw, q ∈ nw') : Pc nw' v p := let ⟨T, t, e, m⟩ := h; ⟨T, t, e, s _ m⟩
theorem Pcs.mono {nw nw' : List (Addr × Obj)} {vs : List Value} {ps : List (List UInt8 × Value)} (h : Pcs nw vs ps) (s : ∀ q ∈ nw, q ∈ nw') : Pcs nw' vs ps := by
  induction h with
  | nil => exact .nil
  | cons a _ ih => exact .cons (a.mono s) ih
theorem Pcs.len {nw : List (Addr × Obj)} {vs : List Value} {ps : List (List UInt8 × Value)} (h : Pcs nw vs ps) : vs.length = ps.length := by
  induction h with
  | nil => rfl
  | cons _ _ ih => simp [ih]
theorem Pcs.snoc {nw : List (Addr × Obj)} {vs : List Value} {ps : List (List UInt8 × Value)} {v : Value} {p : List UInt8 × Value} (h : Pcs nw vs ps) (hp : Pc nw v p) : Pcs nw (vs ++ [v]) (ps ++ [p]) := by
  induction h with
  | nil => exact .cons hp .nil
  | cons a _ ih => exact .cons a ih
theorem Pcs.get {nw : List (Addr × Obj)} {vs : List Value} {ps : List (List UInt8 × Value)} {v : Value} (h : Pcs nw vs ps) {i : Nat} (hv : vs[i]? = some v) : ∃ p, ps[i]? = some p ∧ Pc nw v p := by
  induction h generalizing i with
  | nil => simp at hv
  | cons a _ ih =>
    cases i with
    | zero => simp at hv; subst hv; exact ⟨_, rfl, a⟩
    | succ i => simpa using ih (by simpa using hv)
theorem Pcs.take {nw : List (Addr × Obj)} {vs : List Value} {ps : List (List UInt8 × Value)} (h : Pcs nw vs ps) (n : Nat) : Pcs nw (vs.take n) (ps.take n) := by
  induction h generalizing n with
  | nil => simp; exact .nil
  | cons a _ ih =>
    cases n with
    | zero => exact .nil
    | succ n => exact .cons a (ih n)

section
variable {prog : Program} {w : World} {loose : List Str} {mean : ExcName → Option Value} {mg mb : Str → Option Value} {A A₀ : Around} {env cenv : Env} {outer : List Env} {base h₀ h : Heap} {L D : Addr} {lv : Nat} {ns gl : List Str} {vs vs1 vs2 : List (Option Value)} {news nw foot rest dl tl Kp cl : List (Addr × Obj)} {x y n1 n2 : Str} {v u : Value} {p p1 p2 p3 p4 p' np cpos px : Pos} {kk : Nat}
variable {gs : Array GenState} {dr : Drawn} {tk : Nat} {os : OsState} {Q E : Value → Shared → Prop} {QB : Bool → Shared → Prop} {QF : Flow → Shared → Prop} {e e1 e2 i o a b ek ev iter f : Expr} {pos : Pos} {elts : List Expr} {rst : List Stmt} {s : Shared} {n : Int} {od : Obj} {kvs : List (Int × Value)} {scope : Scope} {clo : List (Str × Addr)}

theorem CBind.pair {I l : Addr} {its : Array Value} {J : Nat → List Value → List (Addr × Obj) → Prop} (hh : A.handled = none) (hkind : scope.kind = .function) (h1 : scope.names.lookup n1 = some .local) (h2 : scope.names.lookup n2 = some .local) (hne : n1 ≠ n2)
    (hP : ∀ (i : Nat) (v : Value), its[i]? = some v → ∃ (T : Addr) (a b : Value), v = .ref T ∧ (T, tupO [a, b]) ∈ news) (hJ : ∀ i ys nw, J i ys nw → nw = news) :
    CBind prog w A h₀ L ns vs gs dr os env scope clo (.Tuple [.Name n1 p1, .Name n2 p2] kk p3) I its.size (fun i v => its[i]? = some v) (fun i h => h.IsListIter I l i ∧ h.IsList l its) (fun i v m => ∃ (T : Addr) (a b : Value), v = .ref T ∧ (T, tupO [a, b]) ∈ news ∧ m n1 = some a ∧ m n2 = some b) J := by
  intro i ys nw tail h tk C m v E' hi hP' hj S hn hs
  obtain ⟨T, a, b, rfl, hm⟩ := hP i v hP'
  obtain rfl := hJ i ys nw hj
  refine wpAny_letOwnedTupleGo_listiter hs.1 ?_
  refine assign_Tuple_tuple (items := #[a, b]) hh ⟨_, S.get (List.mem_append_left _ hm), rfl, _, rfl⟩ rfl rfl fun h' he => ?_
  have st : h.StaysIn h' := fun b o e => he b o (Nat.ne_of_lt (Heap.lt_size e)) e
  refine assignInOrder_cons (wpAny_assign_Name (wpAny_storeName_local (env := compEnvC scope clo C env) (relabel_lookup (by decide) h1) (hn.keeps st) (fun h3 hn3 hs3 => ?_) (by simp [compEnvC, relabel, hkind])))
  refine assignInOrder_cons (wpAny_assign_Name (wpAny_storeName_local (env := compEnvC scope clo C env) (relabel_lookup (by decide) h2) hn3 (fun h4 hn4 hs4 => ?_) (by simp [compEnvC, relabel, hkind])))
  refine assignInOrder_nil ⟨h4, _, _, rfl, fun b o hb e => hs4.extBut b o hb (hs3.extBut b o hb (st _ _ e)), hn4, T, a, b, rfl, hm, ?_, ?_⟩
  · simp [hne]
  · simp

/-- [x for n1, n2 in pieces] -/
theorem w_pcol (fn : Value → Value → Value) (hfn : ∀ (m : Str → Option Value) a b, m n1 = some a → m n2 = some b → m x = some (fn a b)) (hnt : ∀ a b, nt (fn a b) = nt (fn (nt a) b))
    (hh : A.handled = none) (hclos : closureFor scope env = pure clo) (hcell : ∀ y ∈ scope.names, y.2 ≠ .cell) (hkind : scope.kind = .function) (hnames : ∀ y ∈ scope.names, y.2 = .local → scope.names.lookup y.1 = some .local)
    (h1 : scope.names.lookup n1 = some .local) (h2 : scope.names.lookup n2 = some .local) (hx : scope.names.lookup x = some .local) (hd : (x == ("__debug__" : Str)) = false) (hne : n1 ≠ n2)
    (q : WP prog w A (eval iter env) (fun v s₁ => ∃ (l : Addr) (its : List Value) (k0 : Nat) (h : Heap) (tk : Nat) (news : List (Addr × Obj)) (ps : List (List UInt8 × Value)), v = .ref l ∧ s₁ = ⟨h, gs, dr, tk, os⟩ ∧ St h₀ L h ns vs news ∧ (l, listOf its.toArray k0) ∈ news ∧ Pcs news its ps ∧ ps.length ≤ 1000 ∧
      ∀ (D : Addr) (ys : List Value) (yn : Nat) (h' : Heap) (tk' : Nat), ys.map nt = ps.map (fun p => nt (fn (.bytes p.1.toArray 0) p.2)) → St h₀ L h' ns vs ((D, listOf ys.toArray yn) :: news) → Q (.ref D) ⟨h', gs, dr, tk', os⟩) E s) (hs : ∀ x, foldedSetIterable iter env x = pure x := by intro _; rfl) :
    WP prog w A (eval (.ListComp (.Name x px) [⟨.Tuple [.Name n1 p1, .Name n2 p2] kk p3, iter, [], 0⟩] scope pos) env) Q E s := by
  refine c_comp (h₀ := h₀) (L := L) (ns := ns) (vs := vs) (gs := gs) (dr := dr) (os := os) (cl := clo) hclos hcell hkind hnames (WP.mono q fun v s₁ h₁ => ?_) hs
  obtain ⟨l, its, k0, h, tk, news, ps, rfl, rfl, S, hm, hps, hz, k⟩ := h₁
  refine it_list hh S (PySem.IsL.isList (n := k0) (S.get hm)) fun I oI h4 S4 st4 hne4 W sx => ?_
  refine ⟨I, oI, _, _, _, _, _, (fun i ys nw => nw = news ∧ ys.length = i ∧ ys.map nt = (ps.take i).map (fun p => nt (fn (.bytes p.1.toArray 0) p.2))), h4, _, _, rfl, rfl, W, by rw [List.size_toArray, hps.len]; omega, S4, sx, ⟨rfl, rfl, by simp⟩, fun _ _ _ h' hj hg s => ?_, CBind.pair (news := news) hh hkind h1 h2 hne (fun i v hv => ?_) (fun i ys nw hj => hj.1), CTurn.plain ?_, ?_⟩
  · exact PySem.IsL.isList (n := k0) (hg _ (hj.1 ▸ hm))
  · obtain ⟨p, _, T, t, e, hm2⟩ := hps.get (by simpa using hv)
    exact ⟨T, _, _, e, hm2⟩
  · rintro i ys nw tail h tk C oC m v E' hlt hP ⟨rfl, hlen, hys⟩ SS hC hmm ⟨T, a, b, rfl, hT, ha, hb⟩
    obtain ⟨p, hp, T', t, e', hT'⟩ := hps.get (by simpa using hP)
    cases e'
    have e1 := SS.get (List.mem_append_left _ hT)
    rw [SS.get (List.mem_append_left _ hT')] at e1
    have e2 : #[Value.bytes p.1.toArray t, p.2] = #[a, b] := by
      have := Option.some.inj e1
      simpa using this
    have ea : a = .bytes p.1.toArray t := by have := congrArg (fun z => z[0]?) e2; simpa using this.symm
    have eb : b = p.2 := by have := congrArg (fun z => z[1]?) e2; simpa using this.symm
    subst ea eb
    refine Ev.use' (Ev.cn SS (List.mem_append_right _ hC) hmm (hfn m _ _ ha hb) hkind hx hd rfl) fun v7 h7 tk7 n7 s7 => ?_
    refine ⟨_, _, nw, rfl, SS.grow s7, rfl, by simp [hlen], ?_⟩
    rw [List.map_append, hys, List.take_add_one, hp, List.map_append]
    simp only [List.map_cons, List.map_nil, Option.toList]
    rw [n7, hnt]
    rfl
  · rintro D h tk nw' ys yn ⟨rfl, hlen, hys⟩ SS
    refine k D ys yn h tk ?_ SS
    rw [hys, List.take_of_length_le (by rw [List.size_toArray, hps.len]; exact Nat.le_refl _)]

/-- list(D.values()) -/
theorem w_values {px p1 p2 p3 p4 : Pos} (hh : A.handled = none) (S : St h₀ L h ns vs news) (hm : (D, od) ∈ news) (hd : od.IsDictOf (intKind prog w) kvs) (lo : (D == sysModules) = false) (hz : kvs.length ≤ 1000)
    (qf : Ev prog w A env h f (.type "list")) (qo : Ev prog w A env h (.Name x px) (.ref D))
    (k : ∀ D2 k0 h' tk' r, St h₀ L h' ns vs ((D2, listOf (kvs.map (·.2)).toArray k0) :: r :: news) → Q (.ref D2) ⟨h', gs, dr, tk', os⟩)
    (hpl : (backTo p4 (starEach [(.Call (.Attribute (.Name x px) (Str.ofString "values") p1) [] [] p2 : Expr)] env)).any (·.1) = false := by rfl)
    (he : starEach [(.Call (.Attribute (.Name x px) (Str.ofString "values") p1) [] [] p2 : Expr)] env = (false, eval (.Call (.Attribute (.Name x px) (Str.ofString "values") p1) [] [] p2) env) :: starEach [] env := by rfl)
    (hc : eval (.Call f [.Call (.Attribute (.Name x px) (Str.ofString "values") p1) [] [] p2] [] p4) env = (do callWith p4 (← eval f env) [] (backTo p4 (starEach [(.Call (.Attribute (.Name x px) (Str.ofString "values") p1) [] [] p2 : Expr)] env)) (backToKw p4 (keywordEach [] env))) := by rfl) 
    (hc2 : eval (.Call (.Attribute (.Name x px) (Str.ofString "values") p1) [] [] p2) env = (do
        let ov ← eval (.Name x px) env
        standAt p1.atName
        let __x ← holding [ov] (getMethod ov (Str.ofString "values") (do return (← importBound (.Name x px) env).getD true))
        match __x with
          | (f, first) => callWith p2 f first (backTo p2 (starEach [] env)) []) := by rfl) :
    WP prog w A (eval (.Call f [.Call (.Attribute (.Name x px) (Str.ofString "values") p1) [] [] p2] [] p4) env) Q E ⟨h, gs, dr, tk, os⟩ := by
  refine c_ty qf (fun h2 tk2 s2 => ?_) hpl he hc
  have S2 := S.grow s2
  refine sp_i (w_meth0 (Ev.use' (qo.grow s2) fun ov h3 tk3 n3 s3 => ?_) hc2) he
  obtain rfl := nt_ref n3
  have S3 := S2.grow s3
  refine ⟨"dict.values", [.ref D], kdl_method PySem.F.slot_dict_values PySem.F.type_dict_values S3.nw hm hd ⟨rfl, rfl⟩, .mk ?_⟩
  have hD := kda_dict (s := ⟨h3, gs, dr, tk3, os⟩) S3.nw hm hd
  refine call_meetsIn (s := ⟨h3, gs, dr, tk3, os⟩) PySem.F.slot_dict_values hD.typeIs PySem.F.entry_dict_values (PySem.F.args_dict_values_1 _) (meets_dict_values (intKind prog w) D lo) ⟨⟨kvs, hD⟩, ?_⟩
  have S4 := S3.push { cls := .type "dict_values", data := .fields #[.ref D] }
  refine (sp_n ?_).out
  obtain ⟨ep, hat⟩ := (kda_dict (s := ⟨_, gs, dr, tk3, os⟩) S4.nw (.tail _ hm) hd).dictAt
  refine S4.elim fun m F back => kdl_N (kdl_values (knd := intKind prog w) (kvs := kvs) (ep := ep)) hh F S4.nw ⟨⟨_, S4.get (.head _), rfl, rfl⟩, hat⟩ (by rw [sizeLine_eq]; omega) fun D2 c' h' tk' vs' F' N' hlt hlen hv => ?_
  have hv2 : vs' = kvs.map (·.2) := kdl_vals_eq _ hlen hv
  subst hv2
  exact k D2 c' h' tk' _ (back h' _ F' N' (nd_cons S4.nd hlt))
end
end Mine
end
section
open PySem PySem.Spec PySem.Calls PySem.W PyProof.Rows
open LCg (NsObj ns_obj fr_but)
set_option maxRecDepth 100000
set_option maxHeartbeats 300000
set_option linter.unusedVariables false
namespace Mine
/-- the number told at the head -/
def dvB : List UInt8 → Nat
  | [] => 0
  | b :: r => if b.toNat < 128 then b.toNat else b.toNat % 128 + 128 * dvB r
theorem dvB_app {os : List UInt8} {r : Nat} (h : VOct os r) (t : List UInt8) : dvB (os ++ t) = r := by
  induction h with
  | last h => simp [dvB, h]
  | @more b bs r h _ ih => simp [dvB, show ¬ b.toNat < 128 by omega, ih]
theorem vB_head {a b : Nat} {t : List UInt8} (h : (vB a ++ t).take (vB b).length = vB b) : a = b := by
  have e : vB a ++ t = vB b ++ (vB a ++ t).drop (vB b).length := by conv => lhs; rw [← List.take_append_drop (vB b).length (vB a ++ t), h]
  have h1 := dvB_app (vB_ok a) t
  rw [e, dvB_app (vB_ok b)] at h1
  exact h1.symm

/-- what the pieces make behind the first tag -/
def Blk (md : Nat) (tag : List UInt8) (ps : List (List UInt8 × Value)) (ob : List UInt8) : Prop :=
  match md with
  | 0 => ∃ p, ps = [p] ∧ ob = p.1
  | 1 => ps ≠ [] ∧ ob = joinB tag (ps.map (·.1))
  | _ => ob = vB (ps.flatMap (·.1)).length ++ ps.flatMap (·.1)
/-- the table ahead of a read -/
def TBi (prog : Program) (w : World) (md : Nat) (D : Addr) (key : Int) (its : List Value) (tl : List (Addr × Obj)) : Prop :=
  match md with
  | 0 => ∃ od kvs, tl = [(D, od)] ∧ od.IsDictOf (intKind prog w) kvs ∧ (kvs = [] ∨ ∃ v, kvs = [(key, v)])
  | _ => TLs prog w D key its tl
/-- the table behind a read -/
def TBo (prog : Program) (w : World) (md : Nat) (clr : Bool) (D : Addr) (key : Int) (its : List Value) (ps : List (List UInt8 × Value)) (tl : List (Addr × Obj)) : Prop :=
  match md with
  | 0 => ∃ od v p, ps = [p] ∧ nt v = nt p.2 ∧ tl = [(D, od)] ∧ od.IsDictOf (intKind prog w) (if clr && isDef p.2 then [] else [(key, v)])
  | _ => ∃ vals, vals.map nt = ps.map (fun p => nt p.2) ∧ TLm prog w D key (its ++ vals) tl
/-- the table behind a refused piece -/
def TBe (prog : Program) (w : World) (md : Nat) (D : Addr) (key : Int) (its : List Value) (tl tl' : List (Addr × Obj)) : Prop :=
  match md with
  | 0 => tl' = tl
  | _ => TLm prog w D key its tl'
theorem BOk.pos {k : Int} {v : Value} {os : List UInt8} (h : BOk k v os) : 0 < os.length := by
  cases h with
  | @str s u t q => have := vB_pos u.length; rw [List.length_append]; omega
  | @byt bs t q => have := vB_pos bs.size; rw [List.length_append]; omega
  | zz _ => exact vB_pos _
  | f4 _ => rw [leB_len]; omega
  | f8 _ => rw [leB_len]; omega
  | bool => exact Nat.zero_lt_one
  | var _ => exact vB_pos _
theorem Good.pos {k b : Int} {v : Value} {os : List UInt8} (h : Good k b v os) : 0 < os.length := by
  rcases h with ⟨raw, h1, h2, h3⟩ | ⟨h1, h2, h3⟩
  · obtain ⟨i, b, rfl, _⟩ := h1.split; simp
  · exact h3.pos
theorem Dt.all {os : List UInt8} : Dt true [] os os := (List.append_nil os).symm
theorem lt128 {n : Nat} (h : n ≤ 16777216) : n < 128 ^ (9 + 1) := Nat.lt_of_le_of_lt h (by decide)

section
variable {prog : Program} {w : World} {rest vt tl cl : List (Addr × Obj)} {d D : Addr} {key k b : Int} {clr : Bool} {tag pre post ob : List UInt8} {ps : List (List UInt8 × Value)} {md fin : Nat} {its : List Value}
theorem St.as {h₀ h : Heap} {L : Addr} {ns : List Str} {vs : List (Option Value)} {a b c : List (Addr × Obj)} (S : St h₀ L h ns vs (a ++ b ++ c)) : St h₀ L h ns vs (a ++ (b ++ c)) := by rw [← List.append_assoc]; exact S
theorem St.sa {h₀ h : Heap} {L : Addr} {ns : List Str} {vs : List (Option Value)} {a b c : List (Addr × Obj)} (S : St h₀ L h ns vs (a ++ (b ++ c))) : St h₀ L h ns vs (a ++ b ++ c) := by rw [List.append_assoc]; exact S

theorem dec_ok (hmd : md ≤ 2) (fd : FD prog w md d cl key clr tag (fun o v => Good k b v o)) (hps : ∀ p ∈ ps, Good k b p.2 p.1) (hlen : ps.length ≤ 1000) (hb : Blk md tag ps ob) (ht : TBi prog w md D key its tl) (lo : (D == sysModules) = false) (hV : VTs vt)
    (hz : (pre ++ (ob ++ post)).length ≤ 16777216) (hf : fin ≤ 16777216) (hfin : pre.length + ob.length ≤ fin) (hts : md = 1 → fin ≤ pre.length + ob.length ∨ post.take tag.length ≠ tag) (hits : its.length ≤ 1000) :
    DEC prog w d (pre ++ (ob ++ post)).toArray pre.length fin D (tl ++ vt) cl (fun v nw => ∃ t tl' vt', v = .int (pre.length + ob.length : Nat) t ∧ TBo prog w md clr D key its ps tl' ∧ VTs vt' ∧ nw = tl' ++ vt') (fun _ => False) := by
  intro loose mean mg mb A A₀ env outer base h₀ h L ns vs rest Kp gs dr tk os Q E tb tp te C S kx hst K KE
  have h012 : md = 0 ∨ md = 1 ∨ md = 2 := by omega
  rcases h012 with rfl | rfl | rfl
  · obtain ⟨p, e1, e2⟩ : ∃ p, ps = [p] ∧ ob = p.1 := hb
    obtain ⟨od, kvs, e3, hod, hkv⟩ : ∃ od kvs, tl = [(D, od)] ∧ od.IsDictOf (intKind prog w) kvs ∧ (kvs = [] ∨ ∃ v, kvs = [(key, v)]) := ht
    have fd : FD0 prog w 8 d cl key clr (fun o v => Good k b v o) := @fd
    subst e1 e2 e3
    refine fd true pre post p.1 (p.1 ++ post) p.2 fin D od kvs tb tp te C S hV kx hst hod hkv lo (hps p (.head _)) rfl hz hf (fun e => nomatch e) (fun _ _ v' t od' h' tk' vt' hn hV' hd' S' => ?_) (fun hbad => ?_)
    · exact K _ _ _ _ ⟨t, [(D, od')], vt', rfl, ⟨od', v', p, rfl, hn, rfl, hd'⟩, hV', rfl⟩ S'
    · rcases hbad with h | h
      · cases h
      · omega
  · obtain ⟨hne, e2⟩ : ps ≠ [] ∧ ob = joinB tag (ps.map (·.1)) := hb
    have ht : TLs prog w D key its tl := ht
    have fd : FD1 prog w 8 d cl key tag (fun o v => Good k b v o) := @fd
    subst e2
    refine fd true pre post (joinB tag (ps.map (·.1)) ++ post) ps fin D its tl tb tp te C S.as hV kx hst ht lo hne (fun p hp => ⟨hps p hp, (hps p hp).pos⟩) rfl hz hf (by omega) (fun hbad => ?_) (fun e => nomatch e) (fun _ => hts rfl) (fun _ _ vals t h' tk' vt' tl' hv hV' hT S' => ?_) (fun hbad => ?_)
    · rcases hbad with h | h
      · cases h
      · omega
    · exact K _ _ _ _ ⟨t, tl', vt', rfl, ⟨vals, hv, hT⟩, hV', rfl⟩ S'.sa
    · rcases hbad with h | h
      · cases h
      · omega
  · have e2 : ob = vB (ps.flatMap (·.1)).length ++ ps.flatMap (·.1) := hb
    have ht : TLs prog w D key its tl := ht
    have fd : FD2 prog w 8 d cl key (fun o v => Good k b v o) := @fd
    subst e2
    generalize hraw : (ps.flatMap (·.1)).length = raw at *
    have hzz : raw ≤ 16777216 := by simp only [List.length_append] at hz; omega
    have el : (vB raw ++ ps.flatMap (·.1)).length = (vB raw).length + raw := by rw [List.length_append, hraw]
    refine fd true pre post (vB raw ++ ps.flatMap (·.1) ++ post) (vB raw) raw ps fin D its tl tb tp te C S.as hV kx hst ht lo (fun p hp => ⟨hps p hp, (hps p hp).pos⟩) (vB_ok raw) (vB_len 9 raw (lt128 (by omega))) hzz rfl hz hf (by omega) (fun e => nomatch e) (.inl hraw.symm) (fun _ _ _ vals t h' tk' vt' tl' hv hV' hT S' => ?_) (fun hbad => ?_) (fun hbad => ?_)
    · refine K _ _ _ _ ⟨t, tl', vt', ?_, ⟨vals, hv, hT⟩, hV', rfl⟩ S'.sa
      rw [el, Nat.add_assoc]
    · omega
    · omega

theorem dec_cut {j : Nat} (hmd : md ≤ 2) (fd : FD prog w md d cl key clr tag (fun o v => Good k b v o)) (hps : ∀ p ∈ ps, Good k b p.2 p.1) (hlen : ps.length ≤ 1000) (hb : Blk md tag ps ob) (h1 : md = 1 → ∃ p, ps = [p]) (ht : TBi prog w md D key its tl) (lo : (D == sysModules) = false) (hV : VTs vt)
    (hj : j < ob.length) (hz : (pre ++ ob.take j).length ≤ 16777216) (hzo : ob.length ≤ 16777216) (hits : its.length ≤ 1000) :
    DEC prog w d (pre ++ ob.take j).toArray pre.length (pre ++ ob.take j).length D (tl ++ vt) cl (fun _ _ => False) (fun nw => ∃ tl' vt', TBe prog w md D key its tl tl' ∧ VTs vt' ∧ nw = tl' ++ vt') := by
  intro loose mean mg mb A A₀ env outer base h₀ h L ns vs rest Kp gs dr tk os Q E tb tp te C S kx hst K KE
  have h012 : md = 0 ∨ md = 1 ∨ md = 2 := by omega
  rcases h012 with rfl | rfl | rfl
  · obtain ⟨p, e1, e2⟩ : ∃ p, ps = [p] ∧ ob = p.1 := hb
    obtain ⟨od, kvs, e3, hod, hkv⟩ : ∃ od kvs, tl = [(D, od)] ∧ od.IsDictOf (intKind prog w) kvs ∧ (kvs = [] ∨ ∃ v, kvs = [(key, v)]) := ht
    have fd : FD0 prog w 8 d cl key clr (fun o v => Good k b v o) := @fd
    subst e1 e2 e3
    refine fd false pre [] p.1 (p.1.take j) p.2 _ D od kvs tb tp te C S hV kx hst hod hkv lo (hps p (.head _)) ⟨j, hj, rfl⟩ hz hz (fun _ => rfl) (fun e => nomatch e) (fun _ e g₂ m h' tk' vt' F hV' R => ?_)
    exact KE e g₂ m h' tk' _ F ⟨[(D, od)], vt', rfl, hV', rfl⟩ R
  · obtain ⟨hne, e2⟩ : ps ≠ [] ∧ ob = joinB tag (ps.map (·.1)) := hb
    have ht : TLs prog w D key its tl := ht
    have fd : FD1 prog w 8 d cl key tag (fun o v => Good k b v o) := @fd
    subst e2
    refine fd false pre [] ((joinB tag (ps.map (·.1))).take j) ps _ D its tl tb tp te C S.as hV kx hst ht lo hne (fun p hp => ⟨hps p hp, (hps p hp).pos⟩) ⟨j, hj, rfl⟩ hz hz (by omega) (fun _ => h1 rfl) (fun _ => rfl) (fun e => nomatch e) (fun e => nomatch e) (fun _ e g₂ m h' tk' vt' tl' its' F hV' hi hT R => ?_)
    obtain rfl := hi rfl
    exact KE e g₂ m h' tk' _ (by rw [List.append_assoc]; exact F) ⟨tl', vt', hT, hV', rfl⟩ (by rw [List.append_assoc]; exact R)
  · have e2 : ob = vB (ps.flatMap (·.1)).length ++ ps.flatMap (·.1) := hb
    have ht : TLs prog w D key its tl := ht
    have fd : FD2 prog w 8 d cl key (fun o v => Good k b v o) := @fd
    subst e2
    generalize hraw : (ps.flatMap (·.1)).length = raw at *
    have el : (vB raw ++ ps.flatMap (·.1)).length = (vB raw).length + raw := by rw [List.length_append, hraw]
    have hfl : (pre ++ (vB raw ++ ps.flatMap (·.1)).take j).length = pre.length + j := by rw [List.length_append, List.length_take]; omega
    have hlt : (pre ++ (vB raw ++ ps.flatMap (·.1)).take j).length < pre.length + (vB raw).length + raw := by omega
    refine fd false pre [] ((vB raw ++ ps.flatMap (·.1)).take j) (vB raw) raw ps _ D its tl tb tp te C S.as hV kx hst ht lo (fun p hp => ⟨hps p hp, (hps p hp).pos⟩) (vB_ok raw) (vB_len 9 raw (lt128 (by omega))) (by omega) ⟨j, hj, rfl⟩ hz hz (by omega) (fun _ => hlt) (.inl hraw.symm) (fun _ e => nomatch e) (fun _ e g₂ m h' tk' vt' tl' F hV' hT R => ?_) (fun hbad => ?_)
    · exact KE e g₂ m h' tk' _ (by rw [List.append_assoc]; exact F) ⟨tl', vt', hT, hV', rfl⟩ (by rw [List.append_assoc]; exact R)
    · omega

theorem dec_over (hmd : md ≤ 2) (fd : FD prog w md d cl key clr tag (fun o v => Good k b v o)) (hps : ∀ p ∈ ps, Good k b p.2 p.1) (hlen : ps.length ≤ 1000) (hb : Blk md tag ps ob) (h1 : md = 1 → ∃ p, ps = [p]) (ht : TBi prog w md D key its tl) (lo : (D == sysModules) = false) (hV : VTs vt)
    (hz : (pre ++ ob).length ≤ 16777216) (hf : fin < pre.length + ob.length) (hits : its.length ≤ 1000) :
    DEC prog w d (pre ++ ob).toArray pre.length fin D (tl ++ vt) cl (fun _ _ => False) (fun nw => ∃ tl' vt', VTs vt' ∧ nw = tl' ++ vt') := by
  intro loose mean mg mb A A₀ env outer base h₀ h L ns vs rest Kp gs dr tk os Q E tb tp te C S kx hst K KE
  have hzl := hz
  rw [List.length_append] at hzl
  have h012 : md = 0 ∨ md = 1 ∨ md = 2 := by omega
  rcases h012 with rfl | rfl | rfl
  · obtain ⟨p, e1, e2⟩ : ∃ p, ps = [p] ∧ ob = p.1 := hb
    obtain ⟨od, kvs, e3, hod, hkv⟩ : ∃ od kvs, tl = [(D, od)] ∧ od.IsDictOf (intKind prog w) kvs ∧ (kvs = [] ∨ ∃ v, kvs = [(key, v)]) := ht
    have fd : FD0 prog w 8 d cl key clr (fun o v => Good k b v o) := @fd
    subst e1 e2 e3
    refine fd true pre [] p.1 p.1 p.2 _ D od kvs tb tp te C S hV kx hst hod hkv lo (hps p (.head _)) Dt.all hz (by omega) (fun e => nomatch e) (fun _ h => ?_) (fun _ e g₂ m h' tk' vt' F hV' R => ?_)
    · omega
    · exact KE e g₂ m h' tk' _ F ⟨[(D, od)], vt', hV', rfl⟩ R
  · obtain ⟨hne, e2⟩ : ps ≠ [] ∧ ob = joinB tag (ps.map (·.1)) := hb
    have ht : TLs prog w D key its tl := ht
    have fd : FD1 prog w 8 d cl key tag (fun o v => Good k b v o) := @fd
    subst e2
    refine fd true pre [] (joinB tag (ps.map (fun x : List UInt8 × Value => x.1))) ps _ D its tl tb tp te C S.as hV kx hst ht lo hne (fun p hp => ⟨hps p hp, (hps p hp).pos⟩) Dt.all hz (by omega) (by omega) (fun _ => h1 rfl) (fun e => nomatch e) (fun _ => .inl (by omega)) (fun _ h => ?_) (fun _ e g₂ m h' tk' vt' tl' its' F hV' hi hT R => ?_)
    · omega
    · exact KE e g₂ m h' tk' _ (by rw [List.append_assoc]; exact F) ⟨tl', vt', hV', rfl⟩ (by rw [List.append_assoc]; exact R)
  · have e2 : ob = vB (ps.flatMap (·.1)).length ++ ps.flatMap (·.1) := hb
    have ht : TLs prog w D key its tl := ht
    have fd : FD2 prog w 8 d cl key (fun o v => Good k b v o) := @fd
    subst e2
    generalize hraw : (ps.flatMap (·.1)).length = raw at *
    have el : (vB raw ++ ps.flatMap (·.1)).length = (vB raw).length + raw := by rw [List.length_append, hraw]
    refine fd true pre [] (vB raw ++ ps.flatMap (fun x : List UInt8 × Value => x.1)) (vB raw) raw ps _ D its tl tb tp te C S.as hV kx hst ht lo (fun p hp => ⟨hps p hp, (hps p hp).pos⟩) (vB_ok raw) (vB_len 9 raw (lt128 (by omega))) (by omega) Dt.all hz (by omega) (by omega) (fun e => nomatch e) (.inl hraw.symm) (fun _ _ h => ?_) (fun _ e g₂ m h' tk' vt' tl' F hV' hT R => ?_) (fun hbad => ?_)
    · omega
    · exact KE e g₂ m h' tk' _ (by rw [List.append_assoc]; exact F) ⟨tl', vt', hV', rfl⟩ (by rw [List.append_assoc]; exact R)
    · omega

theorem dec_run {init : List (List UInt8 × Value)} {last : List UInt8 × Value} {raw : Nat} (fd : FD prog w 2 d cl key clr tag (fun o v => Good k b v o)) (hps : ∀ p ∈ init ++ [last], Good k b p.2 p.1) (hlen : (init ++ [last]).length ≤ 1000) (hl : 2 ≤ last.1.length) (hraw : raw + 1 = ((init ++ [last]).flatMap (·.1)).length)
    (ht : TLs prog w D key [] tl) (lo : (D == sysModules) = false) (hV : VTs vt) (hz : (vB raw ++ (init ++ [last]).flatMap (·.1)).length ≤ 16777216) (hf : fin ≤ 16777216) (hf2 : (vB raw).length + raw ≤ fin) :
    DEC prog w d (vB raw ++ (init ++ [last]).flatMap (·.1)).toArray 0 fin D (tl ++ vt) cl (fun _ _ => False) (fun nw => ∃ tl' vt' vals, vals.map nt = init.map (fun p => nt p.2) ∧ TLm prog w D key vals tl' ∧ VTs vt' ∧ nw = tl' ++ vt') := by
  intro loose mean mg mb A A₀ env outer base h₀ h L ns vs rest Kp gs dr tk os Q E tb tp te C S kx hst K KE
  have hzl := hz
  rw [List.length_append] at hzl
  refine fd true [] [] (vB raw ++ (init ++ [last]).flatMap (·.1)) (vB raw) raw (init ++ [last]) fin D [] tl tb tp te C S.as hV kx hst ht lo (fun p hp => ⟨hps p hp, (hps p hp).pos⟩) (vB_ok raw) (vB_len 9 raw (lt128 (by omega))) (by omega) Dt.all hz hf (by rw [List.length_nil]; omega) (fun e => nomatch e) (.inr ⟨hraw, init, last, rfl, hl⟩) (fun h => ?_) (fun h => ?_) (fun _ e g₂ m h' tk' vt' tl' init' last' vals F hV' he hv hT R => ?_)
  · omega
  · simp only [List.length_nil, Nat.zero_add] at h; omega
  · obtain ⟨rfl, he2⟩ := List.append_inj' he rfl
    exact KE e g₂ m h' tk' _ (by rw [List.append_assoc]; exact F) ⟨tl', vt', vals, hv, hT, hV', rfl⟩ (by rw [List.append_assoc]; exact R)
end
end Mine
end
section
open PySem PySem.Spec PySem.Calls PySem.W PyProof.Rows
open LCg (NsObj ns_obj fr_but)
set_option maxRecDepth 100000
set_option maxHeartbeats 400000
set_option linter.unusedVariables false
namespace Mine
open Classical in
/-- how often q stands in a ledger -/
noncomputable def one1 (q x : Addr × Obj) : Nat := if x = q then 1 else 0
noncomputable def cnt (q : Addr × Obj) : List (Addr × Obj) → Nat
  | [] => 0
  | x :: l => one1 q x + cnt q l
theorem cnt_nil {q : Addr × Obj} : cnt q [] = 0 := rfl
theorem cnt_cons {q x : Addr × Obj} {l : List (Addr × Obj)} : cnt q (x :: l) = one1 q x + cnt q l := rfl
theorem cnt_app {q : Addr × Obj} {a b : List (Addr × Obj)} : cnt q (a ++ b) = cnt q a + cnt q b := by
  induction a with
  | nil => simp [cnt]
  | cons x a ih => simp only [List.cons_append, cnt_cons, ih]; omega
theorem perm_cnt {a b : List (Addr × Obj)} (h : ∀ q, cnt q a = cnt q b) : a.Perm b := by
  classical
  have e : ∀ (q : Addr × Obj) (l : List (Addr × Obj)), l.count q = cnt q l := by
    intro q l
    induction l with
    | nil => rfl
    | cons x l ih =>
      rw [List.count_cons, ih, cnt_cons, one1, Nat.add_comm]
      congr 1
      by_cases hx : x = q <;> simp [hx]
  exact List.perm_iff_count.mpr fun q => by rw [e, e, h]
theorem St.sel {h₀ h : Heap} {L : Addr} {ns : List Str} {vs : List (Option Value)} {news keep : List (Addr × Obj)} (S : St h₀ L h ns vs news) (junk : List (Addr × Obj))
    (p : ∀ q, cnt q news = cnt q (keep ++ junk) := by intro q; simp only [cnt_app, cnt_cons, cnt_nil, Nat.add_zero, Nat.zero_add]; try ac_rfl) : St h₀ L h ns vs keep := (S.re (perm_cnt p)).left

section
variable {prog : Program} {w : World} {loose : List Str} {mean : ExcName → Option Value} {mg mb : Str → Option Value} {A A₀ : Around} {env cenv : Env} {outer : List Env} {base h₀ h : Heap} {L D : Addr} {lv : Nat} {ns gl : List Str} {vs vs1 vs2 : List (Option Value)} {news nw foot rest dl tl Kp cl : List (Addr × Obj)} {x y n1 n2 : Str} {v u : Value} {p p1 p2 p3 p4 p5 p6 p7 p8 p9 p' np cpos px : Pos} {kk k1 k2 k3 : Nat}
variable {gs : Array GenState} {dr : Drawn} {tk : Nat} {os : OsState} {Q E : Value → Shared → Prop} {QB : Bool → Shared → Prop} {QF : Flow → Shared → Prop} {e e1 e2 e3 e4 e5 i o a b ek ev iter f : Expr} {pos pos2 : Pos} {elts : List Expr} {rst : List Stmt} {s : Shared} {n : Int} {od : Obj} {kvs : List (Int × Value)} {scope : Scope} {clo : List (Str × Addr)} {d l c : Addr}

theorem Trips.get {nw : List (Addr × Obj)} {vs : List Value} {ks : List (Int × Int × Int)} {v : Value} (h : Trips nw vs ks) {i : Nat} (hv : vs[i]? = some v) : ∃ p, ks[i]? = some p ∧ Trip nw v p := by
  induction h generalizing i with
  | nil => simp at hv
  | cons a _ ih =>
    cases i with
    | zero => simp at hv; subst hv; exact ⟨_, rfl, a⟩
    | succ i => simpa using ih (by simpa using hv)
theorem Trips.len {nw : List (Addr × Obj)} {vs : List Value} {ks : List (Int × Int × Int)} (h : Trips nw vs ks) : vs.length = ks.length := by
  induction h with
  | nil => rfl
  | cons _ _ ih => simp [ih]
theorem Trips.snoc {nw : List (Addr × Obj)} {vs : List Value} {ks : List (Int × Int × Int)} {v : Value} {k : Int × Int × Int} (h : Trips nw vs ks) (hp : Trip nw v k) : Trips nw (vs ++ [v]) (ks ++ [k]) := by
  induction h with
  | nil => exact .cons hp .nil
  | cons a _ ih => exact .cons a ih
def kindF : List (Int × Int × Int) := kindTab.filter fun k => k.1 != 14
theorem kindF_get {i : Nat} {k : Int × Int × Int} (h : kindF[i]? = some k) : KW k.1 k.2.1 k.2.2 := by
  have := List.mem_of_getElem? h
  unfold kindF at this
  rw [List.mem_filter] at this
  exact ⟨this.1, by simpa using this.2⟩

/-- a cell's object -/
def cellX (o : Obj) (v : Option Value) : Obj := { o with data := .cell v }
theorem st_cellX {ob : Obj} {x : Str} {news' : List (Addr × Obj)} {ov : Option Value} {v : Value} {Q : Unit → Shared → Prop} {E : Value → Shared → Prop} (hk : env.scope.kind = .function) (hl : env.kindOf x = some .cell) (hc : env.cells.lookup x = some c) (S : St h₀ L h ns vs news) (sel : Sel c (cellX ob ov) (cellX ob (some v)) news news')
    (k : ∀ h', St h₀ L h' ns vs news' → Q () ⟨h', gs, dr, tk, os⟩) : WP prog w A (storeName env x v) Q E ⟨h, gs, dr, tk, os⟩ := S.elim fun m F back => .mk (by
  have ho := S.get sel.mem
  unfold storeName
  simp only [hl, hk]
  refine wpAny_bind (wpAny_cellOf hc ?_)
  unfold cellSet
  refine wpAny_bind (wpAny_load ho ?_)
  refine wpAny_update ho (k _ ?_)
  obtain ⟨pre, post, e1, e2, a, b⟩ := (sel.upd S.nd).split
  have z := S.nw (c, cellX ob ov) sel.mem
  refine back _ _ (F.change (Heap.SameBut.update ..) z.2.1 z.2.2) ?_ (sel.addrs ▸ S.nd)
  subst e1 e2
  have e := Heap.get?_update_self (fun o : Obj => { o with data := .cell (some v) }) ho rfl
  exact news_set S.nw a b (Heap.SameBut.update ..) e)
theorem Ev.cellX {ob : Obj} {v u : Value} (hk : env.scope.kind = .function) (ce : CE env x c) (S : St h₀ L h ns vs news) (hm : (c, cellX ob (some v)) ∈ news) (hu : nt v = u) : Ev prog w A env h (.Name x p) u := fun h1 s1 gs dr tk os Q E k => by
  have ic : Heap.IsCell h1 c (some v) := ⟨_, s1 _ _ (S.get hm), rfl⟩
  rcases ce.at_ with a | a
  · exact .mk (by with_reducible exact wpAny_Name (wpAny_loadName_cell hk a ce.cell ic (k _ _ _ hu (stays_refl h1))) ce.dbg)
  · exact .mk (by with_reducible exact wpAny_Name (wpAny_loadName_free hk a ce.cell ic (k _ _ _ hu (stays_refl h1)) ce.dic) ce.dbg)

/-- one of the kinds -/
theorem w_kinds {ob : Obj} (C : Cx w loose mean mg mb A env outer A₀ base h₀ L (lv + 1)) (N : FnEnv env L ns gl) (hgk : Str.ofString "_law_kinds" ∈ gl) (hgt : Str.ofString "_law_take" ∈ gl) (S : St h₀ L h ns vs (dl ++ rest)) (Dr : Draw d l dl)
    (ce : CE env n1 c) (hc : (c, cellX ob (some (.ref d))) ∈ rest)
    (hclos : closureFor scope env = pure []) (hcell : ∀ y ∈ scope.names, y.2 ≠ .cell) (hkind : scope.kind = .function) (hnames : ∀ y ∈ scope.names, y.2 = .local → scope.names.lookup y.1 = some .local)
    (hx : scope.names.lookup x = some .local) (hd : (x == ("__debug__" : Str)) = false)
    (k : ∀ T kd wi bi t1 t2 t3 h' tk' dl', KW kd wi bi → Draw d l dl' → St h₀ L h' ns vs ((T, tupO [.int kd t1, .int wi t2, .int bi t3]) :: (dl' ++ rest)) → Q (.ref T) ⟨h', gs, dr, tk', os⟩) (hh : A.handled = none) :
    WP prog w A (eval (.Subscript (.ListComp (.Name x p1) [⟨.Name x p2, .Call (.Name (Str.ofString "_law_kinds") p3) [] [] p4, [.Compare (.Subscript (.Name x p5) (.Constant (.int 0) k1 p6) pos) [.NotEq] [.Constant (.int 14) k2 p'] px], 0⟩] scope pos2) (.Call (.Name (Str.ofString "_law_take") np) [.Name n1 cpos, .Constant (.int 13) k3 p7] [] p8) p9) env) Q E ⟨h, gs, dr, tk, os⟩ := by
  refine w_item ?_ (fun _ _ => rfl) rfl
  refine c_comp (h₀ := h₀) (L := L) (ns := ns) (vs := vs) (gs := gs) (dr := dr) (os := os) (cl := []) hclos hcell hkind hnames ?_
  refine c_fn0 (a := 359) (Ev.glob N C S (by k_is) hgk rfl) (fnAt_K C S (by k_is)) fun h2 tk2 s2 => ?_
  refine kinds_ok C (S.grow s2) fun D0 ws n0 nw h3 tk3 hT S3 => ?_
  have S3 : St h₀ L h3 ns vs ((D0, listOf ws.toArray n0) :: (nw ++ (dl ++ rest))) := S3
  refine (it_list hh S3 (PySem.IsL.isList (n := n0) (S3.get (.head _))) fun I oI h4 S4 st4 hne4 W sx => ?_)
  refine ⟨I, oI, _, _, _, _, _, (fun i ys nw' => nw' = (D0, listOf ws.toArray n0) :: (nw ++ (dl ++ rest)) ∧ ys.length ≤ i ∧ Trips nw ys ((kindTab.take i).filter fun k => k.1 != 14)), h4, _, _, rfl, rfl, W, by rw [List.size_toArray, hT.len]; decide, S4, sx, ⟨rfl, Nat.le_refl _, .nil⟩, fun _ _ _ h' hj hg s => PySem.IsL.isList (n := n0) (hg (D0, listOf ws.toArray n0) (by rw [hj.1]; exact .head _)), CBind.name hkind hx, ?_, ?_⟩
  · rintro i ys nw' tail h5 tk5 Ca oC m v hi hP ⟨rfl, hlen, hys⟩ SS hC hm hB
    obtain ⟨kd, hk, T, ta, tb, tc, rfl, hTm⟩ := hT.get (by simpa using hP)
    have hTn : (T, tupO [.int kd.1 ta, .int kd.2.1 tb, .int kd.2.2 tc]) ∈ ((D0, listOf ws.toArray n0) :: (nw ++ (dl ++ rest))) ++ tail := List.mem_append_left _ (.tail _ (List.mem_append_left _ hTm))
    have hq : Ev prog w A (compEnvC scope [] Ca env) h5 (.Name x p5) (.ref T) := Ev.cn SS (List.mem_append_right _ hC) hm (show m x = some (.ref T) from hB) hkind hx hd rfl
    have hq1 : Ev prog w A (compEnvC scope [] Ca env) h5 (.Name x p1) (.ref T) := Ev.cn SS (List.mem_append_right _ hC) hm (show m x = some (.ref T) from hB) hkind hx hd rfl
    refine ⟨kd.1 != 14, fun E' => wpAny_tests_one (w_tcmp (w_itemT (gs := gs) (dr := dr) (os := os) (Ev.use' hq fun v6 h6 tk6 n6 s6 => ?_) (by decide) (by decide)) (bim rfl rfl _)).out, fun hf => ⟨rfl, by omega, ?_⟩, fun ht h6 tk6 E' st6 S6 => ?_⟩
    · obtain rfl := nt_ref n6
      refine ⟨T, _, .int kd.1 ta, h6, tk6, 0, rfl, rfl, (SS.grow s6).get hTn, (by decide : seqIndex? 0 3 = some 0), rfl, fun tk7 => Ev.use' Ev.int fun v8 h8 tk8 n8 s8 => ?_⟩
      obtain ⟨t8, rfl⟩ := nt_int n8
      exact .mk (by with_reducible exact ne_int (WP.mk (wpAny_truthy_bool ⟨rfl, _, _, rfl, stays_trans s6 s8⟩)))
    · rw [List.take_add_one, hk, List.filter_append]
      simpa [hf] using hys
    · refine Ev.use' (hq1.grow st6) fun v8 h8 tk8 n8 s8 => ?_
      obtain rfl := nt_ref n8
      refine ⟨h8, tk8, _, rfl, S6.grow s8, rfl, by simp; omega, ?_⟩
      rw [List.take_add_one, hk, List.filter_append]
      simpa [ht] using hys.snoc ⟨T, ta, tb, tc, rfl, hTm⟩
  · rintro D2 h5 tk5 nw' ys yn ⟨rfl, hlen, hys⟩ S5
    have hw : ws.toArray.size = 14 := by rw [List.size_toArray, hT.len]; rfl
    rw [hw] at hys
    have hys : Trips nw ys kindF := hys
    have S6 : St h₀ L h5 ns vs (dl ++ ((D2, listOf ys.toArray yn) :: (nw ++ rest))) := S5.sel [(D0, listOf ws.toArray n0)]
    refine w_take C N.gl hgt S6 Dr (Ev.cellX N.kind ce S6 (List.mem_append_right _ (.tail _ (List.mem_append_right _ hc))) rfl) Ev.int (by decide) fun r t h7 tk7 dl' Dr' h0 h1 S7 => ?_
    have hlt : r.toNat < ys.length := by rw [hys.len]; show r.toNat < 13; omega
    obtain ⟨kd, hk, T, ta, tb, tc, hT1, hT2⟩ := hys.get (List.getElem?_eq_getElem hlt)
    refine ⟨D2, ys.toArray, yn, r, t, .ref T, rfl, rfl, S7.get (List.mem_append_right _ (.head _)), h0, by omega, by rw [List.getElem?_toArray, List.getElem?_eq_getElem hlt, hT1], ?_⟩
    have hm : (T, tupO [.int kd.1 ta, .int kd.2.1 tb, .int kd.2.2 tc]) ∈ dl' ++ ((D2, listOf ys.toArray yn) :: (nw ++ rest)) := List.mem_append_right _ (.tail _ (List.mem_append_left _ hT2))
    obtain ⟨pre, suf, rfl⟩ := List.append_of_mem hT2
    refine k T kd.1 kd.2.1 kd.2.2 ta tb tc h7 tk7 dl' (kindF_get hk) Dr' (S7.sel ((D2, listOf ys.toArray yn) :: (pre ++ suf)))

/-- a call of _law_read -/
theorem w_read {foot : List (Addr × Obj)} {buf : Array UInt8} {first fin : Int} (C : Cx w loose mean mg mb A env [] A₀ base base L (8 + 1)) (N : FnEnv env L ns gl) (hg : Str.ofString "_law_read" ∈ gl) (S : St base L h ns vs news)
    (q1 : Ev prog w A env h e1 (.ref d)) (q2 : Ev prog w A env h e2 (.bytes buf 0)) (q3 : Ev prog w A env h e3 (.int first 0)) (q4 : Ev prog w A env h e4 (.int fin 0))
    (fa : ∀ h : Heap, (∀ q ∈ cl, h.get? q.1 = some q.2) → FnAt d h)
    (q5 : ∀ h' tk', h.StaysIn h' → WP prog w A (eval e5 env) (fun v s => ∃ (h2 : Heap) (tk2 : Nat) (D : Addr) (foot rest : List (Addr × Obj)) (Rel : Value → List (Addr × Obj) → Prop) (RelE : List (Addr × Obj) → Prop), v = .ref D ∧ s = ⟨h2, gs, dr, tk2, os⟩ ∧ St base L h2 ns vs (foot ++ rest) ∧ (∀ q ∈ cl, q ∈ rest) ∧ DEC prog w d buf first fin D foot cl Rel RelE ∧
      (∀ v h' tk' nw, Rel v nw → St base L h' ns vs (nw ++ rest) → Q v ⟨h', gs, dr, tk', os⟩) ∧ (∀ t h' tk' nwE, RelE nwE → St base L h' ns vs (nwE ++ rest) → Q (.int (-1) t) ⟨h', gs, dr, tk', os⟩)) E ⟨h', gs, dr, tk', os⟩)
    (he1 : starEach [e1, e2, e3, e4, e5] env = (false, eval e1 env) :: starEach [e2, e3, e4, e5] env := by rfl) (he2 : starEach [e2, e3, e4, e5] env = (false, eval e2 env) :: starEach [e3, e4, e5] env := by rfl)
    (he3 : starEach [e3, e4, e5] env = (false, eval e3 env) :: starEach [e4, e5] env := by rfl) (he4 : starEach [e4, e5] env = (false, eval e4 env) :: starEach [e5] env := by rfl) (he5 : starEach [e5] env = (false, eval e5 env) :: starEach [] env := by rfl)
    (hc : eval (.Call (.Name (Str.ofString "_law_read") p) [e1, e2, e3, e4, e5] [] pos) env = (do callWith pos (← eval (.Name (Str.ofString "_law_read") p) env) [] (backTo pos (starEach [e1, e2, e3, e4, e5] env)) (backToKw pos (keywordEach [] env))) := by rfl) :
    WP prog w A (eval (.Call (.Name (Str.ofString "_law_read") p) [e1, e2, e3, e4, e5] [] pos) env) Q E ⟨h, gs, dr, tk, os⟩ := by
  refine c_fn (a := 397) (Ev.glob N C S (by k_is) hg rfl) (fun h2 tk2 s2 => ?_) (by rw [he1, he2, he3, he4, he5]; rfl) he1 hc
  refine sp_p (q1.grow s2) (fun v3 h3 tk3 n3 s3 => ?_) he1
  have t3 := stays_trans s2 s3
  refine sp_p (q2.grow t3) (fun v4 h4 tk4 n4 s4 => ?_) he2
  have t4 := stays_trans t3 s4
  refine sp_p (q3.grow t4) (fun v5 h5 tk5 n5 s5 => ?_) he3
  have t5 := stays_trans t4 s5
  refine sp_p (q4.grow t5) (fun v6 h6 tk6 n6 s6 => ?_) he4
  have t6 := stays_trans t5 s6
  obtain rfl := nt_ref n3
  obtain ⟨t7, rfl⟩ := nt_bytes n4
  obtain ⟨t8, rfl⟩ := nt_int n5
  obtain ⟨t9, rfl⟩ := nt_int n6
  refine sp_i (WP.mono (q5 h6 tk6 t6) fun v7 s7 h7 => ?_) he5
  obtain ⟨h8, tk8, D, foot, rest, Rel, RelE, rfl, rfl, S8, hcl, dec, k, kC⟩ := h7
  exact (sp_n ⟨fnAt_K C S8 (by k_is), (read_ok dec fa C S8 hcl k kC).out⟩).out
end
end Mine
end
section
open PySem PySem.Spec PySem.Calls PySem.W PyProof.Rows
open LCg (NsObj ns_obj fr_but)
set_option maxRecDepth 100000
set_option maxHeartbeats 1000000
set_option linter.unusedVariables false
namespace Mine

section
variable {prog : Program} {w : World} {loose : List Str} {mean : ExcName → Option Value} {mg mb : Str → Option Value} {A A₀ : Around} {env cenv : Env} {outer : List Env} {base h₀ h : Heap} {L D : Addr} {lv : Nat} {ns gl : List Str} {vs vs1 vs2 : List (Option Value)} {news nw foot rest dl tl Kp cl : List (Addr × Obj)} {x y n1 n2 : Str} {v u : Value} {p p1 p2 p3 p4 p' np cpos : Pos} {kk : Nat}
variable {gs : Array GenState} {dr : Drawn} {tk : Nat} {os : OsState} {Q E : Value → Shared → Prop} {QF : Flow → Shared → Prop} {e e1 e2 i o a b : Expr} {pos : Pos} {elts : List Expr} {rst : List Stmt} {s : Shared} {oo : Obj × Obj × Obj}

noncomputable def lawSig (w : World) : { o : Obj // (hd.heap_39 w.params).lookup 402 = some o } := ⟨_, by k_is⟩
noncomputable def lawBody (w : World) : List Stmt := match (lawSig w).1.data with | .func fd => (match fd.body with | .stmts b => b | _ => []) | _ => []
abbrev lawNs : List Str := [Str.ofString "script", Str.ofString "wire", Str.ofString "number", Str.ofString "mode", Str.ofString "clears", Str.ofString "tag", Str.ofString "ahead", Str.ofString "behind", Str.ofString "table", Str.ofString "decode", Str.ofString "due", Str.ofString "turn", Str.ofString "pieces", Str.ofString "octets", Str.ofString "value", Str.ofString "packed", Str.ofString "run", Str.ofString "whole", Str.ofString "first", Str.ofString "cut"]
abbrev lawGl : List Str := [Str.ofString "_law_draw", Str.ofString "_law_kinds", Str.ofString "_law_take", Str.ofString "_law_number", Str.ofString "_law_varint", Str.ofString "DecoderOf", Str.ofString "_law_new", Str.ofString "range", Str.ofString "len", Str.ofString "_law_read", Str.ofString "repr", Str.ofString "list"]
structure LE (env : Env) (L : Addr) : Prop where
  N : FnEnv env L lawNs lawGl
  bk : env.blockKind = .function
  k1 : env.kindOf (Str.ofString "draw") = some .cell
  k2 : env.kindOf (Str.ofString "kind") = some .cell
  k3 : env.kindOf (Str.ofString "bits") = some .cell
  c1 : env.cells.lookup (Str.ofString "draw") = some (L + 1)
  c2 : env.cells.lookup (Str.ofString "kind") = some (L + 2)
  c3 : env.cells.lookup (Str.ofString "bits") = some (L + 3)
theorem LE.ce1 (le : LE env L) : CE env (Str.ofString "draw") (L + 1) := ⟨.inl le.k1, le.c1, by decide +kernel, by decide +kernel⟩
theorem LE.ce2 (le : LE env L) : CE env (Str.ofString "kind") (L + 2) := ⟨.inl le.k2, le.c2, by decide +kernel, by decide +kernel⟩
theorem LE.ce3 (le : LE env L) : CE env (Str.ofString "bits") (L + 3) := ⟨.inl le.k3, le.c3, by decide +kernel, by decide +kernel⟩
theorem LE.swap (le : LE env L) {elt : Expr} {gens : List Comprehension} {scope : Scope} {line : Nat} (hy : y ∈ lawNs) (hl : (p.line == pos.line) = true) (hs : (!(scope.names.any fun (n, k) => n == y && (k == .local || k == .cell))) = true) :
    swapsWith (.ListComp elt gens scope pos) (some (.Name y p)) line env = pure true := by
  show (pure (env.blockKind == .function && env.kindOf y == some .local && p.line == pos.line && !(scope.names.any fun (n, k) => n == y && (k == .local || k == .cell))) : Sem Bool) = pure true
  rw [le.bk, le.N.loc y hy, hl, hs]; rfl
theorem KW.wire {k wi b : Int} (q : KW k wi b) : 0 ≤ wi ∧ wi ≤ 5 := by refine KW.cases (P := fun _ wi _ => 0 ≤ wi ∧ wi ≤ 5) ?_ ?_ ?_ ?_ ?_ ?_ ?_ ?_ ?_ ?_ ?_ ?_ ?_ q <;> decide
/-- a and b, as a value -/
theorem w_and2 {c : Bool} (q1 : Ev prog w A env h e1 (.bool c)) (k1 : c = true → ∀ h' tk', h.StaysIn h' → WP prog w A (eval e2 env) Q E ⟨h', gs, dr, tk', os⟩) (k2 : c = false → ∀ h' tk', h.StaysIn h' → Q (.bool false) ⟨h', gs, dr, tk', os⟩) :
    WP prog w A (eval (.BoolOp .And [e1, e2] p) env) Q E ⟨h, gs, dr, tk, os⟩ := .mk (BoolOp_and (q1.use h (stays_refl h) gs dr tk os _ _ fun v h2 tk2 n2 s2 => by
  obtain rfl := nt_bool n2
  refine wpAny_truthy_bool ?_
  cases c with
  | true => exact (k1 rfl _ _ s2).out
  | false => exact k2 rfl _ _ s2).out)

/-- what stands of the drawn field -/
structure LF (prog : Program) (w : World) (kd wi bi : Int) (num md : Nat) (clr : Bool) (tag ah be : List UInt8) (d : Addr) (cl : List (Addr × Obj)) : Prop where
  kw : KW kd wi bi
  n0 : 1 ≤ num
  n1 : num ≤ 536870911
  md2 : md ≤ 2
  mdw : md = 2 → wi ≠ 2
  tag_ : tag = vB (8 * num + if md = 2 then 2 else wi.toNat)
  ah_ : ah.length ≤ 2
  be_ : be = [] ∨ be = vB (8 * num + 8 + wi.toNat) ++ [0]
  fa : ∀ h : Heap, (∀ q ∈ cl, h.get? q.1 = some q.2) → FnAt d h
  fd : FD prog w md d cl num clr tag (fun o v => Good kd bi v o)
abbrev lawTabs : List (Addr × Obj) := [(298, tabObj #[]), (290, tabObj #[]), (179, tabObj #[]), (172, tabObj #[]), (165, tabObj #[]), (102, tabObj #[])]
theorem FD.tag {md : Nat} {d : Addr} {key : Int} {clr : Bool} {tag tag' : List UInt8} {Ok : List UInt8 → Value → Prop} (hmd : md ≤ 2) (q : FD prog w md d cl key clr tag Ok) (ht : md = 1 → tag = tag') : FD prog w md d cl key clr tag' Ok := by
  have h012 : md = 0 ∨ md = 1 ∨ md = 2 := by omega
  rcases h012 with rfl | rfl | rfl
  · exact @q
  · rw [← ht rfl]; exact @q
  · exact @q

/-- the law's first lines -/
theorem law_pre {sc : Addr} {xs : List Value} {is : List Int} {tabs : List (Addr × Obj)} (C : Cx w loose mean mg mb A env [] A₀ base base L 20) (le : LE env L) (S : St base L h lawNs (some (.ref sc) :: List.replicate 19 none) ([(L + 1, cellX oo.1 none), (L + 2, cellX oo.2.1 none), (L + 3, cellX oo.2.2 none)] ++ (lawTabs ++ tabs)))
    (hl : h.IsList sc xs.toArray) (hi : IntsAre xs is) (hz : is.length ≤ 63)
    (k : ∀ kd wi bi num md clr tag ah be f cl d l t2 t3 D h' tk' dl, LF prog w kd wi bi num md clr tag ah be f cl → Draw d l dl → (D == sysModules) = false → GT lawTabs cl →
      St base L h' lawNs ([some (.ref sc), some (.int wi 0), some (.int num 0), some (.int md 0), some (.bool clr), some (.bytes tag.toArray 0), some (.bytes ah.toArray 0), some (.bytes be.toArray 0), some (.ref D), some (.ref f)] ++ List.replicate 10 none)
        (dl ++ ([(L + 1, cellX oo.1 (some (.ref d))), (L + 2, cellX oo.2.1 (some (.int kd t2))), (L + 3, cellX oo.2.2 (some (.int bi t3)))] ++ ((D, dict0) :: (cl ++ tabs)))) →
      WP prog w A (execs ((lawBody w).drop 11) env) QF E ⟨h', gs, dr, tk', os⟩) :
    WP prog w A (execs (lawBody w) env) QF E ⟨h, gs, dr, tk, os⟩ := by
  have N := le.N
  have hlow : sysModules < base.objs.size := modules_low C.T.nolimit
  refine x_asg (c_fn (a := 338) (Ev.glob N C S (by k_is) (.head _) rfl) fun h1 tk1 s1 => sp_p (Ev.loc N (S.grow s1) .hd) fun v2 h2 tk2 n2 s2 => sp_n ?_)
  obtain rfl := nt_ref n2
  have S2 := (S.grow s1).grow s2
  refine ⟨fnAt_K C S2 (by k_is), (draw_ok C S2 (hl.at fun o e => s2 _ o (s1 _ o e)) hi hz fun d l h3 tk3 dl Dr S3 => ?_).out⟩
  refine st_cellX N.kind le.k1 le.c1 S3 (Sel.app .hd dl) fun h4 S4 => ?_
  clear S S2 S3
  -- kind, wire, bits
  refine x_unp C.hand ?_ rfl rfl rfl
  refine w_kinds C N (.tail _ (.head _)) (.tail _ (.tail _ (.head _))) S4 Dr le.ce1 (.head _) (closure_of (by kernel_rfl)) (by decide +kernel) rfl (by decide +kernel) (by decide +kernel) (by decide +kernel) (fun T kd wi bi t1 t2 t3 h5 tk5 dl2 kw Dr2 S5 => ?_) C.hand
  refine ⟨T, #[.int kd t1, .int wi t2, .int bi t3], rfl, ⟨_, S5.get (.head _), rfl, _, rfl⟩, rfl, fun h6 st6 => .mk ?_⟩
  have S6 := (S5.grow st6).drop
  refine assignInOrder_cons (wpAny_assign_Name (st_cellX N.kind le.k2 le.c2 S6 (Sel.app (.tl .hd) dl2) fun h7 S7 => ?_).out)
  refine assignInOrder_cons (wpAny_assign_Name (st_loc (prog := prog) (w := w) (A := A) N S7 (.tl .hd) fun h8 tk8 S8 => ?_).out)
  refine assignInOrder_cons (wpAny_assign_Name (st_cellX N.kind le.k3 le.c3 S8 (Sel.app (.tl (.tl .hd)) dl2) fun h9 S9 => ?_).out)
  refine assignInOrder_nil ?_
  clear S4 S5 S6 S7 S8 Dr
  have kwi := kw.wire
  -- number
  refine x_asg (c_fn (a := 376) (Ev.glob N C S9 (by k_is) (.tail _ (.tail _ (.tail _ (.head _)))) rfl) fun h1 tk1 s1 => sp_p (Ev.cellX N.kind le.ce1 (S9.grow s1) (List.mem_append_right _ (.head _)) rfl) fun v2 h2 tk2 n2 s2 => sp_n ?_)
  obtain rfl := nt_ref n2
  have S2 := (S9.grow s1).grow s2
  refine ⟨fnAt_K C S2 (by k_is), (number_ok C S2 Dr2 fun n tn h3 tk3 dl3 Dr3 hn0 hn1 S3 => ?_).out⟩
  obtain ⟨num, rfl⟩ := Int.eq_ofNat_of_zero_le (show 0 ≤ n by omega)
  refine st_loc N S3 (.tl (.tl .hd)) fun h4 tk4 S4 => ?_
  clear S9 S2 S3 Dr2
  -- mode
  refine x_asg (w_take C N.gl (.tail _ (.tail _ (.head _))) S4 Dr3 (Ev.cellX N.kind le.ce1 S4 (List.mem_append_right _ (.head _)) rfl) Ev.int (by decide) fun r tr h5 tk5 dl4 Dr4 r0 r1 S5 => ?_)
  refine st_loc N S5 (.tl (.tl (.tl .hd))) fun h6 tk6 S6 => ?_
  clear S4 S5 Dr3
  obtain ⟨md, hmd, hmdw, emd⟩ : ∃ md : Nat, md ≤ 2 ∧ (md = 2 → wi ≠ 2) ∧ (if (r == 2 && (wi == 2 && true)) = true then (.int 0 0 : Value) else .int r 0) = .int md 0 := by
    by_cases hc : (r == 2 && (wi == 2 && true)) = true
    · exact ⟨0, by omega, by omega, by rw [if_pos hc]; rfl⟩
    · refine ⟨r.toNat, by omega, fun e e2 => ?_, ?_⟩
      · apply hc; simp [e2]; omega
      · rw [if_neg hc]; congr 1; omega
  refine x_assign (vs' := [some (.ref sc), some (.int wi 0), some (.int num 0), some (.int md 0)] ++ List.replicate 16 none) N S6 (Ev.cast (Ev.ite (TsB.and (Ts.eq (Ev.loc N S6 (.tl (.tl (.tl .hd)))) Ev.int) fun _ => TsB.and (Ts.eq (Ev.loc N S6 (.tl .hd)) Ev.int) fun _ => TsB.andN).ts (fun hc => Ev.cast Ev.int (if_pos hc).symm) (fun hc => Ev.cast (Ev.loc N S6 (.tl (.tl (.tl .hd)))) (if_neg (by rw [hc]; decide)).symm)) emd) (.tl (.tl (.tl .hd))) fun h7 tk7 S7 => ?_
  clear S6 emd
  -- clears
  refine x_asg (WP.mono (Q := fun v s => ∃ clr dl h tk, v = .bool clr ∧ s = ⟨h, gs, dr, tk, os⟩ ∧ Draw d l dl ∧ St base L h lawNs ([some (.ref sc), some (.int wi 0), some (.int num 0), some (.int md 0)] ++ List.replicate 16 none) (dl ++ ([(L + 1, cellX oo.1 (some (.ref d))), (L + 2, cellX oo.2.1 (some (.int kd t1))), (L + 3, cellX oo.2.2 (some (.int bi t3)))] ++ (lawTabs ++ tabs)))) ?_ fun v s hv => ?_)
  · refine w_and2 (Ev.eq (Ev.loc N S7 (.tl (.tl (.tl .hd)))) Ev.int) (fun _ h8 tk8 s8 => ?_) (fun _ h8 tk8 s8 => ⟨false, _, _, _, rfl, rfl, Dr4, S7.grow s8⟩)
    have S8 := S7.grow s8
    refine w_cmp (w_take C N.gl (.tail _ (.tail _ (.head _))) S8 Dr4 (Ev.cellX N.kind le.ce1 S8 (List.mem_append_right _ (.head _)) rfl) Ev.int (by decide) fun r2 tr2 h9 tk9 dl5 Dr5 r20 r21 S9 => ?_) (bim rfl rfl _)
    refine Ev.use' Ev.int fun v10 h10 tk10 n10 s10 => ?_
    obtain ⟨t10, rfl⟩ := nt_int n10
    exact .mk (by (with_reducible refine eq_int ?_); exact ⟨_, _, _, _, rfl, rfl, Dr5, S9.grow s10⟩)
  obtain ⟨clr, dl5, h8, tk8, rfl, rfl, Dr5, S8⟩ := hv
  refine st_loc N S8 (.tl (.tl (.tl (.tl .hd)))) fun h9 tk9 S9 => ?_
  clear S7 S8 Dr4
  -- tag
  have etag : ∀ h : Heap, St base L h lawNs ([some (.ref sc), some (.int wi 0), some (.int num 0), some (.int md 0), some (.bool clr)] ++ List.replicate 15 none) (dl5 ++ ([(L + 1, cellX oo.1 (some (.ref d))), (L + 2, cellX oo.2.1 (some (.int kd t1))), (L + 3, cellX oo.2.2 (some (.int bi t3)))] ++ (lawTabs ++ tabs))) → ∀ p1 p2 p3 p4 p5 p6 p7 p8 p9 p k1 k2 k3, Ev prog w A env h (.BinOp (.BinOp (.Constant (.int 8) k1 p1) .Mult (.Name (Str.ofString "number") p2) p3) .Add (.IfExp (.Compare (.Name (Str.ofString "mode") p4) [.Eq] [.Constant (.int 2) k2 p5] p6) (.Constant (.int 2) k3 p7) (.Name (Str.ofString "wire") p8) p9) p) (.int ((8 * num + if md = 2 then 2 else wi.toNat : Nat) : Int) 0) := by
    intro h S p1 p2 p3 p4 p5 p6 p7 p8 p9 p k1 k2 k3
    refine Ev.cast (Ev.add (Ev.mul Ev.int (Ev.loc N S (.tl (.tl .hd))) (mulOkL (by decide))) (Ev.ite (v := .int ((if md = 2 then 2 else wi.toNat : Nat) : Int) 0) (Ts.eq (Ev.loc N S (.tl (.tl (.tl .hd)))) Ev.int) (fun hc => Ev.cast Ev.int ?_) (fun hc => Ev.cast (Ev.loc N S (.tl .hd)) ?_))) ?_
    · have : md = 2 := by have := eq_of_beq hc; omega
      rw [if_pos this]; rfl
    · have : md ≠ 2 := fun e => by rw [e] at hc; cases hc
      rw [if_neg this]; congr 1; omega
    · congr 1
  have hnt : 8 * num + (if md = 2 then 2 else wi.toNat) < 128 ^ 11 := Nat.lt_of_lt_of_le (m := 2 ^ 40) (by split <;> omega) (by decide)
  have hnb : 8 * num + 8 + wi.toNat < 128 ^ 11 := Nat.lt_of_lt_of_le (m := 2 ^ 40) (by omega) (by decide)
  refine x_asg (w_varint C N.gl (.tail _ (.tail _ (.tail _ (.tail _ (.head _))))) S9 (etag _ S9 _ _ _ _ _ _ _ _ _ _ _ _ _) hnt fun t10 h10 tk10 S10 => ?_)
  clear etag
  rw [vB_arr]
  generalize htag : vB (8 * num + if md = 2 then 2 else wi.toNat) = tag
  refine st_loc N S10 (.tl (.tl (.tl (.tl (.tl .hd))))) fun h11 tk11 S11 => ?_
  clear S9 S10
  -- ahead
  refine x_asg (w_item (w_list S11 (.cons Ev.cbytes (.cons Ev.cbytes .nil)) (by decide) fun D12 ws12 h12 tk12 e12 S12 st12 => ?_) (fun _ _ => by with_unfolding_all rfl) rfl)
  refine w_take C N.gl (.tail _ (.tail _ (.head _))) S12.mid Dr5 (Ev.cellX N.kind le.ce1 S12.mid (List.mem_append_right _ (.tail _ (.head _))) rfl) Ev.int (by decide) fun r13 t13 h13 tk13 dl6 Dr6 r130 r131 S13 => ?_
  obtain ⟨va, ah, ha, hna, hla⟩ : ∃ v ah, ws12.toArray[r13.toNat]? = some v ∧ nt v = .bytes (List.toArray ah) 0 ∧ ah.length ≤ 2 := by
    obtain ⟨x, y, rfl, hx, hy⟩ := map_nt2 e12
    have : r13 = 0 ∨ r13 = 1 := by omega
    rcases this with rfl | rfl
    · exact ⟨x, [], rfl, hx, by decide⟩
    · exact ⟨y, [8, 1], rfl, hy, by decide⟩
  refine ⟨_, _, _, _, _, _, rfl, rfl, S13.get (List.mem_append_right _ (.head _)), r130, by omega, ha, ?_⟩
  obtain ⟨ta, rfl⟩ := nt_bytes hna
  refine st_loc N (S13.sel (keep := dl6 ++ ([(L + 1, cellX oo.1 (some (.ref d))), (L + 2, cellX oo.2.1 (some (.int kd t1))), (L + 3, cellX oo.2.2 (some (.int bi t3)))] ++ (lawTabs ++ tabs))) [(D12, listOf ws12.toArray 0)]) (.tl (.tl (.tl (.tl (.tl (.tl .hd)))))) fun h14 tk14 S14 => ?_
  clear S11 S12 S13 Dr5
  -- behind
  refine x_asg (w_item (.mk (List_ (WP.out ?_))) (fun _ _ => by with_unfolding_all rfl) rfl)
  refine sp_p Ev.cbytes fun v15 h15 tk15 n15 s15 => ?_
  have S15 := S14.grow s15
  refine sp_i (w_bin (w_varint (n := 8 * num + 8 + wi.toNat) C N.gl (.tail _ (.tail _ (.tail _ (.tail _ (.head _))))) S15 (Ev.cast (Ev.add (Ev.add (Ev.mul Ev.int (Ev.loc N S15 (.tl (.tl .hd))) (mulOkL (by decide))) Ev.int) (Ev.loc N S15 (.tl .hd))) (by congr 1; omega)) hnb fun t16 h16 tk16 S16 => ?_))
  refine Ev.use' Ev.cbytes fun v17 h17 tk17 n17 s17 => ?_
  rw [vB_arr]
  obtain ⟨t17, rfl⟩ := nt_bytes n17
  have hbl := vB_len 10 _ hnb
  refine w_addB (by rw [List.length_singleton]; omega) fun t18 tk18 => ?_
  refine (sp_n ?_).out
  have S18 := S16.grow s17
  refine (c_newlist (prog := prog) (w := w) (A := A) S18 (fun D19 h19 tk19 S19 st19 l19 => ?_) (show ([v15, .bytes (vB (8 * num + 8 + wi.toNat) ++ [0]).toArray t18] : List Value).length ≤ 16777216 from (by decide : 2 ≤ 16777216))).out
  refine w_take C N.gl (.tail _ (.tail _ (.head _))) S19.mid Dr6 (Ev.cellX N.kind le.ce1 S19.mid (List.mem_append_right _ (.tail _ (.head _))) rfl) Ev.int (by decide) fun r20 t20 h20 tk20 dl7 Dr7 r200 r201 S20 => ?_
  obtain ⟨vb, be, hb, hnb2, hlb⟩ : ∃ v be, [v15, .bytes (vB (8 * num + 8 + wi.toNat) ++ [0]).toArray t18].toArray[r20.toNat]? = some v ∧ nt v = .bytes (List.toArray be) 0 ∧ (be = [] ∨ be = vB (8 * num + 8 + wi.toNat) ++ [0]) := by
    have : r20 = 0 ∨ r20 = 1 := by omega
    rcases this with rfl | rfl
    · exact ⟨_, [], rfl, n15, .inl rfl⟩
    · exact ⟨_, _, rfl, rfl, .inr rfl⟩
  refine ⟨_, _, _, _, _, _, rfl, rfl, S20.get (List.mem_append_right _ (.head _)), r200, by omega, hb, ?_⟩
  obtain ⟨tb, rfl⟩ := nt_bytes hnb2
  refine st_loc N (S20.sel (keep := dl7 ++ ([(L + 1, cellX oo.1 (some (.ref d))), (L + 2, cellX oo.2.1 (some (.int kd t1))), (L + 3, cellX oo.2.2 (some (.int bi t3)))] ++ (lawTabs ++ tabs))) [(D19, listOf [v15, .bytes (vB (8 * num + 8 + wi.toNat) ++ [0]).toArray t18].toArray 0)]) (.tl (.tl (.tl (.tl (.tl (.tl (.tl .hd))))))) fun h21 tk21 S21 => ?_
  clear S14 S15 S16 S18 S19 S20 Dr6
  -- table
  refine x_asg (w_dict0 hlow S21 fun D h22 hD S22 st22 => ?_)
  refine st_loc N S22 (.tl (.tl (.tl (.tl (.tl (.tl (.tl (.tl .hd)))))))) fun h23 tk23 S23 => ?_
  have S24 : St base L h23 lawNs ([some (.ref sc), some (.int wi 0), some (.int num 0), some (.int md 0), some (.bool clr), some (.bytes tag.toArray 0), some (.bytes ah.toArray 0), some (.bytes be.toArray 0), some (.ref D)] ++ List.replicate 11 none) (lawTabs ++ (dl7 ++ ([(L + 1, cellX oo.1 (some (.ref d))), (L + 2, cellX oo.2.1 (some (.int kd t1))), (L + 3, cellX oo.2.2 (some (.int bi t3)))] ++ ((D, dict0) :: tabs)))) := S23.sel []
  clear S21 S22 S23
  -- decode
  refine x_asg (c_fn (a := 333) (Ev.glob N C S24 (by k_is) (.tail _ (.tail _ (.tail _ (.tail _ (.tail _ (.head _)))))) rfl) fun h1 tk1 s1 => sp_p (Ev.cellX N.kind le.ce2 (S24.grow s1) (List.mem_append_right _ (List.mem_append_right _ (.tail _ (.head _)))) rfl) fun v2 h2 tk2 n2 s2 => ?_)
  obtain ⟨u2, rfl⟩ := nt_int n2
  have S2 := (S24.grow s1).grow s2
  refine sp_p (Ev.loc N S2 (.tl (.tl .hd))) fun v3 h3 tk3 n3 s3 => ?_
  obtain ⟨u3, rfl⟩ := nt_int n3
  have S3 := S2.grow s3
  refine sp_p (Ev.gt (Ev.loc N S3 (.tl (.tl (.tl .hd)))) Ev.int) fun v4 h4 tk4 n4 s4 => ?_
  obtain rfl := nt_bool n4
  have S4 := S3.grow s4
  refine sp_p (Ev.eq (Ev.loc N S4 (.tl (.tl (.tl .hd)))) Ev.int) fun v5 h5 tk5 n5 s5 => ?_
  obtain rfl := nt_bool n5
  have S5 := S4.grow s5
  refine sp_p (Ev.loc N S5 (.tl (.tl .hd))) fun v6 h6 tk6 n6 s6 => ?_
  obtain ⟨u6, rfl⟩ := nt_int n6
  have S6 := S5.grow s6
  refine sp_p (Ev.glob N C S6 (by k_is) (.tail _ (.tail _ (.tail _ (.tail _ (.tail _ (.tail _ (.head _))))))) rfl) fun v7 h7 tk7 n7 s7 => ?_
  obtain rfl := nt_ref n7
  have S7 := S6.grow s7
  refine sp_p (Ev.loc N S7 (.tl (.tl (.tl (.tl .hd))))) fun v8 h8 tk8 n8 s8 => ?_
  obtain rfl := nt_bool n8
  have S8 := S7.grow s8
  have eg : decide ((0 : Int) < (md : Int)) = decide (0 < md) := by simp
  have ee : ((md : Int) == 2) = (md == 2) := by
    have h : md = 0 ∨ md = 1 ∨ md = 2 := by omega
    rcases h with rfl | rfl | rfl <;> rfl
  refine sp_n ⟨fnAt_K C S8 (by k_is), ?_⟩
  rw [eg, ee]
  refine (decof_ok kw hmd hmdw (by omega) (C.le (by decide)) S8 fun f cl h9 tk9 fa fd gt S9 => ?_).out
  refine st_loc N S9 (.tl (.tl (.tl (.tl (.tl (.tl (.tl (.tl (.tl .hd))))))))) fun h10 tk10 S10 => ?_
  refine k kd wi bi num md clr tag ah be f cl d l t1 t3 D h10 tk10 dl7 ⟨kw, by omega, by omega, hmd, hmdw, htag.symm, hla, hlb, fa, fd.tag hmd fun e => ?_⟩ Dr7 hD gt (S10.sel [])
  rw [← htag, if_neg (by omega)]
end
end Mine
end
section
open PySem PySem.Spec PySem.Calls PySem.W PyProof.Rows
open LCg (NsObj ns_obj fr_but)
set_option maxRecDepth 100000
set_option maxHeartbeats 1000000
set_option linter.unusedVariables false
namespace Mine

section
variable {prog : Program} {w : World} {loose : List Str} {mean : ExcName → Option Value} {mg mb : Str → Option Value} {A A₀ : Around} {env cenv : Env} {outer : List Env} {base h₀ h : Heap} {L D : Addr} {lv : Nat} {ns gl : List Str} {vs vs1 vs2 : List (Option Value)} {news nw foot rest dl tl Kp cl : List (Addr × Obj)} {x y n1 n2 : Str} {v u : Value} {p p1 p2 p3 p4 p' np cpos : Pos} {kk : Nat}
variable {gs : Array GenState} {dr : Drawn} {tk : Nat} {os : OsState} {Q E : Value → Shared → Prop} {QF : Flow → Shared → Prop} {e e1 e2 i o a b : Expr} {pos : Pos} {elts : List Expr} {rst : List Stmt} {s : Shared} {oo : Obj × Obj × Obj}

noncomputable def lawLoop (w : World) : List Stmt := match (lawBody w).drop 12 with | .For _ _ b _ _ :: _ => b | _ => []
abbrev LV (sc : Addr) (wi : Int) (num md : Nat) (clr : Bool) (tag ah be : List UInt8) (D f : Addr) (r : List (Option Value)) : List (Option Value) :=
  [some (.ref sc), some (.int wi 0), some (.int num 0), some (.int md 0), some (.bool clr), some (.bytes tag.toArray 0), some (.bytes ah.toArray 0), some (.bytes be.toArray 0), some (.ref D), some (.ref f)] ++ r
abbrev LC (L : Addr) (oo : Obj × Obj × Obj) (d : Addr) (kd bi : Int) (t2 t3 : Tok) : List (Addr × Obj) := [(L + 1, cellX oo.1 (some (.ref d))), (L + 2, cellX oo.2.1 (some (.int kd t2))), (L + 3, cellX oo.2.2 (some (.int bi t3)))]
theorem LE.clo (le : LE env L) {ns' : List (Str × NameKind)} (h : ns' = [(Str.ofString ".0", .local), (Str.ofString "k", .local), (Str.ofString "_law_odd", .globalImplicit), (Str.ofString "bits", .free), (Str.ofString "draw", .free), (Str.ofString "kind", .free)]) :
    cloOf (fun n => env.cells.lookup n) ns' [] = some [(Str.ofString "kind", L + 2), (Str.ofString "draw", L + 1), (Str.ofString "bits", L + 3)] := by
  subst h
  show (match env.cells.lookup (Str.ofString "bits") with | some c => _ | none => _) = _
  rw [le.c3]
  show (match env.cells.lookup (Str.ofString "draw") with | some c => _ | none => _) = _
  rw [le.c1]
  show (match env.cells.lookup (Str.ofString "kind") with | some c => _ | none => _) = _
  rw [le.c2]
  rfl

/-- a turn's pieces -/
theorem law_turn1 {kd wi bi : Int} {num md : Nat} {clr : Bool} {tag ah be : List UInt8} {f d l sc : Addr} {t2 t3 : Tok} {du tn pc va pk ru wh fi : Option Value} {R : List (Addr × Obj)} {cl : List (Addr × Obj)} {dl : List (Addr × Obj)} (C : Cx w loose mean mg mb A env [] A₀ base base L 20) (le : LE env L) (F : LF prog w kd wi bi num md clr tag ah be f cl) (Dr : Draw d l dl)
    (S : St base L h lawNs (LV sc wi num md clr tag ah be D f [du, tn, pc, none, va, pk, ru, wh, fi, none]) (dl ++ (LC L oo d kd bi t2 t3 ++ R)))
    (k : ∀ Pl pl pk0 pnw ps dl' h' tk', Draw d l dl' → Pcs pnw pl ps → (∀ p ∈ ps, Good kd bi p.2 p.1 ∧ p.1.length ≤ 16) → ps.length ≤ 3 → (md ≠ 2 → ps ≠ []) → (md = 0 → ∃ p, ps = [p]) →
      St base L h' lawNs (LV sc wi num md clr tag ah be D f [du, tn, some (.ref Pl), none, va, pk, ru, wh, fi, none]) (dl' ++ (LC L oo d kd bi t2 t3 ++ ((Pl, listOf pl.toArray pk0) :: (pnw ++ R)))) → WP prog w A (execs ((lawLoop w).drop 1) env) QF E ⟨h', gs, dr, tk', os⟩) :
    WP prog w A (execs (lawLoop w) env) QF E ⟨h, gs, dr, tk, os⟩ := by
  have N := le.N
  refine x_comp (h₀ := base) (L := L) (ns := lawNs) (vs := LV sc wi num md clr tag ah be D f [du, tn, pc, none, va, pk, ru, wh, fi, none]) (gs := gs) (dr := dr) (os := os) (cl := [(Str.ofString "kind", L + 2), (Str.ofString "draw", L + 1), (Str.ofString "bits", L + 3)]) N (closure_of (le.clo rfl)) (by decide +kernel) rfl (by decide +kernel) (fun D => (.tl (.tl (.tl (.tl (.tl (.tl (.tl (.tl (.tl (.tl (.tl (.tl .hd))))))))))))) ?_ (le.swap (by decide +kernel) rfl (by decide +kernel))
  refine c_ty (Ev.bi N C S (by k_is) (.tail _ (.tail _ (.tail _ (.tail _ (.tail _ (.tail _ (.tail _ (.head _)))))))) PyProof.Rows.Boot.«range» (by decide) rfl) fun h2 tk2 s2 => ?_
  have S2 := S.grow s2
  refine sp_i (WP.mono (Q := fun v s => ∃ (n : Int) (t : Tok) (dl2 : List (Addr × Obj)) (h : Heap) (tk : Nat), v = .int n t ∧ s = ⟨h, gs, dr, tk, os⟩ ∧ 0 ≤ n ∧ n ≤ 3 ∧ (md ≠ 2 → 1 ≤ n) ∧ (md = 0 → n = 1) ∧ Draw d l dl2 ∧ St base L h lawNs (LV sc wi num md clr tag ah be D f [du, tn, pc, none, va, pk, ru, wh, fi, none]) (dl2 ++ (LC L oo d kd bi t2 t3 ++ R))) ?_ fun v s hv => ?_)
  · refine w_ite ((Ts.eq (Ev.loc N S2 (.tl (.tl (.tl .hd)))) Ev.int).use _ (stays_refl _) gs dr tk2 os _ _ fun h3 tk3 s3 => ?_)
    have S3 := S2.grow s3
    split
    · rename_i hc
      refine w_take C N.gl (.tail _ (.tail _ (.head _))) S3 Dr (Ev.cellX N.kind le.ce1 S3 (List.mem_append_right _ (.head _)) rfl) Ev.int (by decide) fun r4 t4 h4 tk4 dl4 Dr4 r40 r41 S4 => ?_
      have hmd : md = 2 := by have := eq_of_beq hc; omega
      exact ⟨r4, t4, dl4, h4, tk4, rfl, rfl, r40, by omega, by omega, by omega, Dr4, S4⟩
    · rename_i hc
      have hmd : md ≠ 2 := fun e => hc (by rw [e]; rfl)
      refine w_bin (Ev.use' Ev.int fun v4 h4 tk4 n4 s4 => ?_)
      obtain ⟨t4, rfl⟩ := nt_int n4
      have S4 := S3.grow s4
      refine w_ite ((Ts.eq (Ev.loc N S4 (.tl (.tl (.tl .hd)))) Ev.int).use _ (stays_refl _) gs dr tk4 os _ _ fun h5 tk5 s5 => ?_)
      have S5 := S4.grow s5
      split
      · rename_i hc2
        have hmd2 : md = 1 := by have := eq_of_beq hc2; omega
        refine w_take C N.gl (.tail _ (.tail _ (.head _))) S5 Dr (Ev.cellX N.kind le.ce1 S5 (List.mem_append_right _ (.head _)) rfl) Ev.int (by decide) fun r6 t6 h6 tk6 dl6 Dr6 r60 r61 S6 => ?_
        exact .mk (by (with_reducible refine add_int ?_); exact ⟨1 + r6, _, dl6, h6, _, rfl, rfl, by omega, by omega, by omega, by omega, Dr6, S6⟩)
      · rename_i hc2
        have hmd2 : md ≠ 1 := fun e => hc2 (by rw [e]; rfl)
        have := F.md2
        refine Ev.use' Ev.int fun v6 h6 tk6 n6 s6 => ?_
        obtain ⟨t6, rfl⟩ := nt_int n6
        exact .mk (by (with_reducible refine add_int ?_); exact ⟨1 + 0, _, dl, h6, _, rfl, rfl, by omega, by omega, by omega, by omega, Dr, S5.grow s6⟩)
  obtain ⟨n, t, dl2, h7, tk7, rfl, rfl, n0, n3, n1, n00, Dr2, S7⟩ := hv
  refine (sp_n ?_).out
  refine call_range_1 ?_
  have S8 := S7.push { cls := .type "range", data := .fields #[.int 0 tk7, .int n t, .int 1 (tk7 + 1)] }
  refine it_range C.hand S8 (IsRange.new ..) n0 (by omega) fun I oI h9 S9 st9 W sx => ?_
  have S9 := S9.second
  refine ⟨I, oI, _, _, _, _, _, (fun i ys nw' => ∃ dl3 pnw ps, nw' = dl3 ++ (LC L oo d kd bi t2 t3 ++ (pnw ++ R)) ∧ Draw d l dl3 ∧ Pcs pnw ys ps ∧ (∀ p ∈ ps, Good kd bi p.2 p.1 ∧ p.1.length ≤ 16) ∧ ps.length = i), h9, _, _, rfl, rfl, W, by omega, S9, sx, ⟨dl2, [], [], rfl, Dr2, .nil, by simp, rfl⟩, fun _ _ _ h' hj hg s => trivial, CBind.name rfl (by decide +kernel), CTurn.plain ?_, ?_⟩
  · rintro i ys nw' tail h10 tk10 Ca oC m v E' hi hP ⟨dl3, pnw, ps, rfl, Dr3, hps, hg, hlen⟩ SS hC hm hB
    have mem : ∀ q ∈ LC L oo d kd bi t2 t3, q ∈ dl3 ++ (LC L oo d kd bi t2 t3 ++ (pnw ++ R)) ++ tail := fun q hq => List.mem_append_left _ (List.mem_append_right _ (List.mem_append_left _ hq))
    refine c_fn (a := 390) (Ev.globC (gl := [Str.ofString "_law_odd"]) (N.gl.comp rfl (by decide +kernel) (by decide +kernel)) C SS (by k_is) (.head _) rfl) fun h11 tk11 s11 => ?_
    have S11 := SS.grow s11
    refine sp_p (Ev.cellX rfl (CE.comp (c := L + 1) (by decide +kernel) rfl (by decide +kernel) (by decide +kernel)) S11 (mem _ (.head _)) rfl) fun v12 h12 tk12 n12 s12 => ?_
    obtain rfl := nt_ref n12
    have S12 := S11.grow s12
    refine sp_p (Ev.cellX rfl (CE.comp (c := L + 2) (by decide +kernel) rfl (by decide +kernel) (by decide +kernel)) S12 (mem _ (.tail _ (.head _))) rfl) fun v13 h13 tk13 n13 s13 => ?_
    obtain ⟨u13, rfl⟩ := nt_int n13
    have S13 := S12.grow s13
    refine sp_p (Ev.cellX rfl (CE.comp (c := L + 3) (by decide +kernel) rfl (by decide +kernel) (by decide +kernel)) S13 (mem _ (.tail _ (.tail _ (.head _)))) rfl) fun v14 h14 tk14 n14 s14 => ?_
    obtain ⟨u14, rfl⟩ := nt_int n14
    have S14 := S13.grow s14
    refine sp_n ⟨fnAt_K C S14 (by k_is), (odd_ok (lv := 17) C S14.as Dr3 F.kw fun T bs t v15 h15 tk15 dl4 hgood hbl Dr4 S15 => ?_).out⟩
    refine ⟨h15, tk15, dl4 ++ (LC L oo d kd bi t2 t3 ++ (((T, tupO [.bytes bs.toArray t, v15]) :: pnw) ++ R)), rfl, S15.sel [], dl4, (T, tupO [.bytes bs.toArray t, v15]) :: pnw, ps ++ [(bs, v15)], rfl, Dr4, (hps.mono fun q hq => .tail _ hq).snoc ⟨T, t, rfl, .head _⟩, ?_, by simp [hlen]⟩
    intro p hp
    rcases List.mem_append.mp hp with hp | hp
    · exact hg p hp
    · rw [List.mem_singleton.mp hp]; exact ⟨hgood, hbl⟩
  · rintro D2 h10 tk10 nw' ys yn ⟨dl3, pnw, ps, rfl, Dr3, hps, hg, hlen⟩ h11 tk11 S11
    refine k D2 ys yn pnw ps dl3 h11 tk11 Dr3 hps hg (by omega) (fun e he => ?_) (fun e => ?_) (S11.sel [])
    · have := n1 e; rw [he] at hlen; simp at hlen; omega
    · have := n00 e
      match ps, hlen with
      | [p], _ => exact ⟨p, rfl⟩
      | [], hl => simp at hl; omega
      | _ :: _ :: _, hl => simp at hl; omega
end
end Mine
end
section
open PySem PySem.Spec PySem.Calls PySem.W PyProof.Rows
open LCg (NsObj ns_obj fr_but)
set_option maxRecDepth 100000
set_option maxHeartbeats 1000000
set_option linter.unusedVariables false
namespace Mine

section
variable {prog : Program} {w : World} {loose : List Str} {mean : ExcName → Option Value} {mg mb : Str → Option Value} {A A₀ : Around} {env cenv : Env} {outer : List Env} {base h₀ h : Heap} {L D : Addr} {lv : Nat} {ns gl : List Str} {vs vs1 vs2 : List (Option Value)} {news nw foot rest dl tl Kp cl : List (Addr × Obj)} {x y n1 n2 : Str} {v u : Value} {p p1 p2 p3 p4 p' np cpos : Pos} {kk : Nat}
variable {gs : Array GenState} {dr : Drawn} {tk : Nat} {os : OsState} {Q E : Value → Shared → Prop} {QF : Flow → Shared → Prop} {e e1 e2 i o a b : Expr} {pos : Pos} {elts : List Expr} {rst : List Stmt} {s : Shared} {oo : Obj × Obj × Obj}

theorem sum16 {ps : List (List UInt8 × Value)} (h : ∀ p ∈ ps, p.1.length ≤ 16) : ((ps.map (·.1)).map List.length).sum ≤ 16 * ps.length := by
  induction ps with
  | nil => simp
  | cons p ps ih =>
    have h1 := h p (.head _)
    have h2 := ih fun q hq => h q (.tail _ hq)
    simp only [List.map_cons, List.sum_cons, List.length_cons]
    omega
theorem flat_len (ps : List (List UInt8 × Value)) : (ps.flatMap (·.1)).length = ((ps.map (·.1)).map List.length).sum := by
  rw [List.length_flatMap, List.map_map]; rfl
theorem flat_eq (ps : List (List UInt8 × Value)) : joinB [] (ps.map (·.1)) = ps.flatMap (·.1) := by rw [joinB_flat, List.flatMap_def]
theorem nt_fst (a b : Value) : nt ((fun a b : Value => a) a b) = nt ((fun a b : Value => a) (nt a) b) := (nt_nt a).symm
theorem nt_snd (a b : Value) : nt ((fun a b : Value => b) a b) = nt ((fun a b : Value => b) (nt a) b) := rfl

/-- a turn's run -/
theorem law_turn2 {kd wi bi : Int} {num md : Nat} {clr : Bool} {tag ah be : List UInt8} {f sc : Addr} {du tn va pk ru wh fi : Option Value} {cl : List (Addr × Obj)} {Pl : Addr} {pl : List Value} {pk0 : Nat} {ps : List (List UInt8 × Value)} (C : Cx w loose mean mg mb A env [] A₀ base base L 20) (le : LE env L) (F : LF prog w kd wi bi num md clr tag ah be f cl)
    (S : St base L h lawNs (LV sc wi num md clr tag ah be D f [du, tn, some (.ref Pl), none, va, pk, ru, wh, fi, none]) news) (hm : (Pl, listOf pl.toArray pk0) ∈ news) (hps : Pcs news pl ps) (hg : ∀ p ∈ ps, Good kd bi p.2 p.1 ∧ p.1.length ≤ 16) (hlen : ps.length ≤ 3) (hne : md ≠ 2 → ps ≠ []) (h0 : md = 0 → ∃ p, ps = [p])
    (k : ∀ ob pk' h' tk', Blk md tag ps ob → ob.length ≤ 1000 → 0 < ob.length → St base L h' lawNs (LV sc wi num md clr tag ah be D f [du, tn, some (.ref Pl), none, va, pk', some (.bytes ob.toArray 0), wh, fi, none]) news → WP prog w A (execs ((lawLoop w).drop 2) env) QF E ⟨h', gs, dr, tk', os⟩) :
    WP prog w A (execs ((lawLoop w).drop 1) env) QF E ⟨h, gs, dr, tk, os⟩ := by
  have N := le.N
  have hsum := sum16 fun p hp => (hg p hp).2
  have hw := F.kw.wire
  have htl : tag.length ≤ 11 := by
    rw [F.tag_]
    exact vB_len 10 _ (Nat.lt_of_lt_of_le (m := 2 ^ 40) (by have := F.n1; split <;> omega) (by decide))
  refine x_if (Ts.eq (Ev.loc N S (.tl (.tl (.tl .hd)))) Ev.int) (fun hc h2 tk2 s2 => ?_) (fun hc h2 tk2 s2 => ?_)
  · have hmd : md = 2 := by have := eq_of_beq hc; omega
    have S2 := S.grow s2
    refine x_asg (w_join (sep := []) Ev.cbytes fun h3 tk3 s3 => ?_)
    have S3 := S2.grow s3
    refine w_pcol (h₀ := base) (L := L) (ns := lawNs) (vs := LV sc wi num md clr tag ah be D f [du, tn, some (.ref Pl), none, va, pk, ru, wh, fi, none]) (gs := gs) (dr := dr) (os := os) (clo := []) (fun a b => a) (fun m a b h1 h2 => h1) nt_fst C.hand (closure_of (by kernel_rfl)) (by decide +kernel) rfl (by decide +kernel) (by decide +kernel) (by decide +kernel) (by decide +kernel) (by decide +kernel) (by decide +kernel) (Ev.use' (Ev.loc N S3 (.tl (.tl (.tl (.tl (.tl (.tl (.tl (.tl (.tl (.tl (.tl (.tl .hd))))))))))))) fun v4 h4 tk4 n4 s4 => ?_)
    obtain rfl := nt_ref n4
    refine ⟨Pl, pl, pk0, h4, tk4, news, ps, rfl, rfl, S3.grow s4, hm, hps, by omega, fun D5 ys yn h5 tk5 hys S5 => ?_⟩
    refine ⟨D5, ys, ps.map (·.1), yn, h5, tk5, rfl, rfl, S5.get (.head _), by rw [hys, List.map_map]; rfl, ?_, fun v6 tk6 n6 => ?_⟩
    · rw [flat_eq, flat_len]; omega
    obtain ⟨t6, rfl⟩ := nt_bytes n6
    rw [flat_eq]
    refine st_loc N S5.drop (.tl (.tl (.tl (.tl (.tl (.tl (.tl (.tl (.tl (.tl (.tl (.tl (.tl (.tl (.tl .hd))))))))))))))) fun h7 tk7 S7 => ?_
    have hfl : (ps.flatMap (·.1)).length ≤ 48 := by rw [flat_len]; omega
    generalize hfm : ps.flatMap (·.1) = fl at *
    refine x_asg (w_bin (w_varint (n := fl.length) C N.gl (.tail _ (.tail _ (.tail _ (.tail _ (.head _))))) S7 (Ev.cast (Ev.lenB (Ev.bi N C S7 (by k_is) (.tail _ (.tail _ (.tail _ (.tail _ (.tail _ (.tail _ (.tail _ (.tail _ (.head _))))))))) PyProof.Rows.Boot.«len» (by decide) rfl) (Ev.loc N S7 (.tl (.tl (.tl (.tl (.tl (.tl (.tl (.tl (.tl (.tl (.tl (.tl (.tl (.tl (.tl .hd)))))))))))))))) (by rw [List.size_toArray]; omega)) (by rw [List.size_toArray])) (Nat.lt_of_le_of_lt hfl (by decide)) fun t8 h8 tk8 S8 => Ev.use' (Ev.loc N S8 (.tl (.tl (.tl (.tl (.tl (.tl (.tl (.tl (.tl (.tl (.tl (.tl (.tl (.tl (.tl .hd)))))))))))))))) fun v9 h9 tk9 n9 s9 => ?_))
    obtain ⟨t9, rfl⟩ := nt_bytes n9
    have hvl := vB_len 10 fl.length (Nat.lt_of_le_of_lt hfl (by decide))
    have hvp := vB_pos fl.length
    rw [vB_arr]
    refine w_addB (by omega) fun t10 tk10 => ?_
    refine st_loc N (S8.grow s9) (.tl (.tl (.tl (.tl (.tl (.tl (.tl (.tl (.tl (.tl (.tl (.tl (.tl (.tl (.tl (.tl .hd)))))))))))))))) fun h11 tk11 S11 => x_nil (Nx.go ?_)
    subst hmd
    refine k _ _ h11 tk11 ?_ ?_ ?_ S11
    · show _ = _; rw [hfm]
    · rw [List.length_append]; omega
    · rw [List.length_append]; omega
  · have hmd : md ≠ 2 := fun e => by rw [e] at hc; cases hc
    have S2 := S.grow s2
    have hjl := joinB_len tag (ps.map (·.1))
    have hj2 : tag.length * ((ps.map (·.1)).length - 1) ≤ 22 := by
      rw [List.length_map]
      exact Nat.le_trans (Nat.mul_le_mul htl (show ps.length - 1 ≤ 2 by omega)) (by decide)
    refine x_asg (w_join (sep := tag) (Ev.loc N S2 (.tl (.tl (.tl (.tl (.tl .hd)))))) fun h3 tk3 s3 => ?_)
    have S3 := S2.grow s3
    refine w_pcol (h₀ := base) (L := L) (ns := lawNs) (vs := LV sc wi num md clr tag ah be D f [du, tn, some (.ref Pl), none, va, pk, ru, wh, fi, none]) (gs := gs) (dr := dr) (os := os) (clo := []) (fun a b => a) (fun m a b h1 h2 => h1) nt_fst C.hand (closure_of (by kernel_rfl)) (by decide +kernel) rfl (by decide +kernel) (by decide +kernel) (by decide +kernel) (by decide +kernel) (by decide +kernel) (by decide +kernel) (Ev.use' (Ev.loc N S3 (.tl (.tl (.tl (.tl (.tl (.tl (.tl (.tl (.tl (.tl (.tl (.tl .hd))))))))))))) fun v4 h4 tk4 n4 s4 => ?_)
    obtain rfl := nt_ref n4
    refine ⟨Pl, pl, pk0, h4, tk4, news, ps, rfl, rfl, S3.grow s4, hm, hps, by omega, fun D5 ys yn h5 tk5 hys S5 => ?_⟩
    refine ⟨D5, ys, ps.map (·.1), yn, h5, tk5, rfl, rfl, S5.get (.head _), by rw [hys, List.map_map]; rfl, by omega, fun v6 tk6 n6 => ?_⟩
    obtain ⟨t6, rfl⟩ := nt_bytes n6
    refine st_loc N S5.drop (.tl (.tl (.tl (.tl (.tl (.tl (.tl (.tl (.tl (.tl (.tl (.tl (.tl (.tl (.tl (.tl .hd)))))))))))))))) fun h7 tk7 S7 => x_nil (Nx.go ?_)
    have hmd2 := F.md2
    have h01 : md = 0 ∨ md = 1 := by omega
    rcases h01 with e | e
    · obtain ⟨p, rfl⟩ := h0 e
      subst e
      refine k p.1 _ h7 tk7 ⟨p, rfl, rfl⟩ (by have := (hg p (.head _)).2; omega) (hg p (.head _)).1.pos S7
    · subst e
      refine k _ _ h7 tk7 ⟨hne hmd, rfl⟩ (by omega) ?_ S7
      cases ps with
      | nil => exact absurd rfl (hne hmd)
      | cons p r =>
        have := (hg p (.head _)).1.pos
        rw [hjl]
        simp only [List.map_cons, List.sum_cons]
        omega

/-- a turn's read -/
theorem law_turn3 {kd wi bi : Int} {num md : Nat} {clr : Bool} {tag ah be : List UInt8} {f sc : Addr} {du tn pc va pk wh fi : Option Value} {cl tl vt rest : List (Addr × Obj)} {ps : List (List UInt8 × Value)} {ob : List UInt8} {its : List Value} (C : Cx w loose mean mg mb A env [] A₀ base base L 20) (le : LE env L) (F : LF prog w kd wi bi num md clr tag ah be f cl)
    (S : St base L h lawNs (LV sc wi num md clr tag ah be D f [du, tn, pc, none, va, pk, some (.bytes ob.toArray 0), wh, fi, none]) ((tl ++ vt) ++ rest)) (hcl : ∀ q ∈ cl, q ∈ rest) (hg : ∀ p ∈ ps, Good kd bi p.2 p.1 ∧ p.1.length ≤ 16) (hlen : ps.length ≤ 3)
    (hB : Blk md tag ps ob) (hob : ob.length ≤ 1000) (hT : TBi prog w md D num its tl) (lo : (D == sysModules) = false) (hV : VTs vt) (hits : its.length ≤ 1000)
    (k : ∀ h' tk' tl' vt' wh' fi', TBo prog w md clr D num its ps tl' → VTs vt' → St base L h' lawNs (LV sc wi num md clr tag ah be D f [du, tn, pc, none, va, pk, some (.bytes ob.toArray 0), wh', fi', none]) ((tl' ++ vt') ++ rest) → WP prog w A (execs ((lawLoop w).drop 5) env) QF E ⟨h', gs, dr, tk', os⟩) :
    WP prog w A (execs ((lawLoop w).drop 2) env) QF E ⟨h, gs, dr, tk, os⟩ := by
  have N := le.N
  have hw := F.kw.wire
  have hn1 := F.n1
  have htl : tag.length ≤ 11 := by
    rw [F.tag_]
    exact vB_len 10 _ (Nat.lt_of_lt_of_le (m := 2 ^ 40) (by split <;> omega) (by decide))
  have hbl : be.length ≤ 12 := by
    rcases F.be_ with e | e
    · rw [e]; decide
    · rw [e, List.length_append, List.length_singleton]
      have := vB_len 10 (8 * num + 8 + wi.toNat) (Nat.lt_of_lt_of_le (m := 2 ^ 40) (by omega) (by decide))
      omega
  have hal := F.ah_
  refine x_assign (vs' := LV sc wi num md clr tag ah be D f [du, tn, pc, none, va, pk, some (.bytes ob.toArray 0), some (.bytes (ah ++ tag ++ ob).toArray 0), fi, none]) N S (Ev.cast (Ev.addB (Ev.addB (Ev.loc N S (.tl (.tl (.tl (.tl (.tl (.tl .hd))))))) (Ev.loc N S (.tl (.tl (.tl (.tl (.tl .hd)))))) (by simp only [List.size_toArray]; omega)) (Ev.loc N S (.tl (.tl (.tl (.tl (.tl (.tl (.tl (.tl (.tl (.tl (.tl (.tl (.tl (.tl (.tl (.tl .hd))))))))))))))))) (by simp only [Array.size_append, List.size_toArray]; omega)) (by simp)) (.tl (.tl (.tl (.tl (.tl (.tl (.tl (.tl (.tl (.tl (.tl (.tl (.tl (.tl (.tl (.tl (.tl .hd))))))))))))))))) fun h2 tk2 S2 => ?_
  have bi_ := fun (h : Heap) (vs : List (Option Value)) (news : List (Addr × Obj)) (S : St base L h lawNs vs news) (p : Pos) => (Ev.bi (prog := prog) (p := p) N C S (by k_is) (.tail _ (.tail _ (.tail _ (.tail _ (.tail _ (.tail _ (.tail _ (.tail _ (.head _))))))))) PyProof.Rows.Boot.«len» (by decide) rfl)
  refine x_assign (vs' := LV sc wi num md clr tag ah be D f [du, tn, pc, none, va, pk, some (.bytes ob.toArray 0), some (.bytes (ah ++ tag ++ ob).toArray 0), some (.int ((ah ++ tag).length : Nat) 0), none]) N S2 (Ev.cast (Ev.add (Ev.lenB (bi_ _ _ _ S2 _) (Ev.loc N S2 (.tl (.tl (.tl (.tl (.tl (.tl .hd))))))) (by rw [List.size_toArray]; omega)) (Ev.lenB (bi_ _ _ _ S2 _) (Ev.loc N S2 (.tl (.tl (.tl (.tl (.tl .hd)))))) (by rw [List.size_toArray]; omega))) (by simp)) (.tl (.tl (.tl (.tl (.tl (.tl (.tl (.tl (.tl (.tl (.tl (.tl (.tl (.tl (.tl (.tl (.tl (.tl .hd)))))))))))))))))) fun h3 tk3 S3 => ?_
  refine x_ifW (w_tcmp (w_read (foot := []) (C.le (by decide)) N (.tail _ (.tail _ (.tail _ (.tail _ (.tail _ (.tail _ (.tail _ (.tail _ (.tail _ (.head _)))))))))) S3 (Ev.loc N S3 (.tl (.tl (.tl (.tl (.tl (.tl (.tl (.tl (.tl .hd))))))))))
    (Ev.cast (Ev.addB (Ev.loc N S3 (.tl (.tl (.tl (.tl (.tl (.tl (.tl (.tl (.tl (.tl (.tl (.tl (.tl (.tl (.tl (.tl (.tl .hd)))))))))))))))))) (Ev.loc N S3 (.tl (.tl (.tl (.tl (.tl (.tl (.tl .hd)))))))) (by simp only [List.size_toArray, List.length_append]; omega)) (show Value.bytes ((ah ++ tag ++ ob).toArray ++ be.toArray) 0 = .bytes ((ah ++ tag) ++ (ob ++ be)).toArray 0 by simp))
    (Ev.loc N S3 (.tl (.tl (.tl (.tl (.tl (.tl (.tl (.tl (.tl (.tl (.tl (.tl (.tl (.tl (.tl (.tl (.tl (.tl .hd)))))))))))))))))))
    (Ev.cast (Ev.add (Ev.lenB (bi_ _ _ _ S3 _) (Ev.loc N S3 (.tl (.tl (.tl (.tl (.tl (.tl (.tl (.tl (.tl (.tl (.tl (.tl (.tl (.tl (.tl (.tl (.tl .hd)))))))))))))))))) (by simp only [List.size_toArray, List.length_append]; omega)) (Ev.lenB (bi_ _ _ _ S3 _) (Ev.loc N S3 (.tl (.tl (.tl (.tl (.tl (.tl (.tl .hd)))))))) (by simp only [List.size_toArray]; omega))) (show Value.int (((ah ++ tag ++ ob).toArray.size : Int) + (be.toArray.size : Int)) 0 = .int (((ah ++ tag).length + ob.length + be.length : Nat) : Int) 0 by simp [Int.add_assoc]))
    F.fa (fun h4 tk4 s4 => Ev.use' ((Ev.loc N S3 (.tl (.tl (.tl (.tl (.tl (.tl (.tl (.tl .hd))))))))).grow s4) fun v5 h5 tk5 n5 s5 => ?_)) (bim rfl rfl _))
  obtain rfl := nt_ref n5
  refine ⟨h5, tk5, D, tl ++ vt, rest, _, _, rfl, rfl, (S3.grow s4).grow s5, hcl, dec_ok F.md2 F.fd (fun p hp => (hg p hp).1) (by omega) hB hT lo hV (by simp only [List.length_append]; omega) (by simp only [List.length_append]; omega) (by simp only [List.length_append]; omega) (fun e => ?_) hits, ?_, fun _ _ _ _ hf => hf.elim⟩
  · rcases F.be_ with e2 | e2
    · left; rw [e2]; simp
    · right
      intro e3
      have ht := F.tag_
      rw [if_neg (by omega)] at ht
      rw [e2, ht] at e3
      have := vB_head e3
      omega
  · rintro v6 h6 tk6 nw ⟨t6, tl', vt', rfl, hTo, hV', rfl⟩ S6
    refine Ev.use' (Ev.lenB (bi_ _ _ _ S6 _) (Ev.loc N S6 (.tl (.tl (.tl (.tl (.tl (.tl (.tl (.tl (.tl (.tl (.tl (.tl (.tl (.tl (.tl (.tl (.tl .hd)))))))))))))))))) (by simp only [List.size_toArray, List.length_append]; omega)) fun v7 h7 tk7 n7 s7 => ?_
    obtain ⟨t7, rfl⟩ := nt_int n7
    have e : ((((ah ++ tag).length + ob.length : Nat) : Int) != ((ah ++ tag ++ ob).toArray.size : Int)) = false := by rw [List.size_toArray, List.length_append (as := ah ++ tag) (bs := ob)]; exact bne_self_eq_false _
    refine .mk (by
      (with_reducible refine ne_int ?_)
      rw [e]
      refine (WP.mk (wpAny_truthy_bool ?_))
      exact x_nil (Nx.go (k h7 tk7 tl' vt' _ _ hTo hV' (S6.grow s7))))
end
end Mine
end
section
open PySem PySem.Spec PySem.Calls PySem.W PyProof.Rows
open LCg (NsObj ns_obj fr_but)
set_option maxRecDepth 100000
set_option maxHeartbeats 1000000
set_option linter.unusedVariables false
namespace Mine

section
variable {prog : Program} {w : World} {loose : List Str} {mean : ExcName → Option Value} {mg mb : Str → Option Value} {A A₀ : Around} {env cenv : Env} {outer : List Env} {base h₀ h : Heap} {L D : Addr} {lv : Nat} {ns gl : List Str} {vs vs1 vs2 : List (Option Value)} {news nw foot rest dl tl Kp cl : List (Addr × Obj)} {x y n1 n2 : Str} {v u : Value} {p p1 p2 p3 p4 p' np cpos : Pos} {kk : Nat}
variable {gs : Array GenState} {dr : Drawn} {tk : Nat} {os : OsState} {Q E : Value → Shared → Prop} {QF : Flow → Shared → Prop} {e e1 e2 i o a b : Expr} {pos : Pos} {elts : List Expr} {rst : List Stmt} {s : Shared} {oo : Obj × Obj × Obj}

theorem in1_lt (C : Cx w loose mean mg mb A env outer A₀ base h₀ L lv) : A.in1.units < cLine := by have := C.units; show A.units + 1 < 9900; omega
theorem Ts.vd (q : Ev prog w A env h e (nt v)) (hv : VD v) (he : ∀ whole, PySem.isTrue e env whole = (do let v ← whole; standAt e.pos; holding [v] (truthy v)) := by intro _; rfl) : Ts prog w A env h e (!isDef v) :=
  Ts.plain q (fun v' h1 gs dr tk os Q E _ e1 z => truthy_vd hv e1 fun tk' => z _ tk' (stays_refl h1)) he
theorem txt_ne {a b : Str} (e : a = b) : (a.cps.toList != b.cps.toList) = false := by rw [e]; exact bne_self_eq_false _
theorem val1 {n : Int} {v : Value} : valueAt [(n, v)] n = some v := by simp [valueAt]

/-- a turn's end, several values -/
theorem law_turn4a {wi : Int} {num md : Nat} {clr : Bool} {tag ah be : List UInt8} {f sc : Addr} {tn va pk ru wh fi : Option Value} {od : Obj} {xs due pl : List Value} {lT Du Pl : Addr} {ln dn pk0 : Nat} {cl : List (Addr × Obj)} {ps : List (List UInt8 × Value)} (hg0 : A.guards = some []) (hmd : 0 < md) (C : Cx w loose mean mg mb A env [] A₀ base base L 20) (le : LE env L)
    (S : St base L h lawNs (LV sc wi num md clr tag ah be D f [some (.ref Du), tn, some (.ref Pl), none, va, pk, ru, wh, fi, none]) news) (lo : (D == sysModules) = false) (hmD : (D, od) ∈ news) (hmT : (lT, listOf xs.toArray ln) ∈ news) (hmU : (Du, listOf due.toArray dn) ∈ news) (hmP : (Pl, listOf pl.toArray pk0) ∈ news)
    (hod : od.IsDictOf (intKind prog w) [((num : Int), .ref lT)]) (hps : Pcs news pl ps) (hx : xs.map nt = due.map nt ++ ps.map (fun p => nt p.2)) (hv : ∀ v ∈ xs, VD v) (hz : due.length ≤ 50) (hlen : ps.length ≤ 3)
    (k : ∀ (Du2 : Addr) (due2 : List Value) (dn2 : Nat) (h' : Heap) (tk' : Nat), due2.map nt = xs.map nt → St base L h' lawNs (LV sc wi num md clr tag ah be D f [some (.ref Du2), tn, some (.ref Pl), none, va, pk, ru, wh, fi, none]) ((Du2, listOf due2.toArray dn2) :: news) → QF .next ⟨h', gs, dr, tk', os⟩) :
    WP prog w A (execs ((lawLoop w).drop 5) env) QF E ⟨h, gs, dr, tk, os⟩ := by
  have N := le.N
  have hlow : sysModules < base.objs.size := modules_low C.T.nolimit
  refine x_if (Ts.gt (Ev.loc N S (.tl (.tl (.tl .hd)))) Ev.int) (fun hc h2 tk2 s2 => ?_) (fun hc => by simp at hc; omega)
  have S2 := S.grow s2
  refine x_asg (w_bin (Ev.use' (Ev.loc N S2 (.tl (.tl (.tl (.tl (.tl (.tl (.tl (.tl (.tl (.tl .hd))))))))))) fun v3 h3 tk3 n3 s3 => ?_))
  obtain rfl := nt_ref n3
  have S3 := S2.grow s3
  refine w_pcol (h₀ := base) (L := L) (ns := lawNs) (vs := LV sc wi num md clr tag ah be D f [some (.ref Du), tn, some (.ref Pl), none, va, pk, ru, wh, fi, none]) (gs := gs) (dr := dr) (os := os) (clo := []) (fun a b => b) (fun m a b h1 h2 => h2) nt_snd C.hand (closure_of (by kernel_rfl)) (by decide +kernel) rfl (by decide +kernel) (by decide +kernel) (by decide +kernel) (by decide +kernel) (by decide +kernel) (by decide +kernel) (Ev.use' (Ev.loc N S3 (.tl (.tl (.tl (.tl (.tl (.tl (.tl (.tl (.tl (.tl (.tl (.tl .hd))))))))))))) fun v4 h4 tk4 n4 s4 => ?_)
  obtain rfl := nt_ref n4
  refine ⟨Pl, pl, pk0, h4, tk4, news, ps, rfl, rfl, S3.grow s4, hmP, hps, by omega, fun D5 ys yn h5 tk5 hys S5 => ?_⟩
  have hyl : ys.length = ps.length := by have := congrArg List.length hys; simpa using this
  refine c_addL S5 (.tail _ hmU) (.head _) (by omega) fun D6 h6 S6 st6 => ?_
  refine st_loc N S6.second (.tl (.tl (.tl (.tl (.tl (.tl (.tl (.tl (.tl (.tl .hd)))))))))) fun h7 tk7 S7 => ?_
  have e2 : (due ++ ys).map nt = xs.map nt := by rw [List.map_append, hys, hx]
  have exl : xs.length = due.length + ps.length := by have := congrArg List.length hx; simpa using this
  generalize hdue : due ++ ys = due2 at *
  have hl2 : due2.length = xs.length := by have := congrArg List.length e2; simpa using this
  have hv2 : ∀ v ∈ due2, VD v := fun v hm => by
    obtain ⟨i, hi, rfl⟩ := List.mem_iff_getElem.mp hm
    have h3 : i < xs.length := by omega
    have := congrArg (fun l => l[i]?) e2
    simp only [List.getElem?_map, List.getElem?_eq_getElem hi, List.getElem?_eq_getElem h3, Option.map_some, Option.some.injEq] at this
    exact (hv _ (List.getElem_mem h3)).tok this
  refine x_ifW (WB.wp (WB.or (w_tcmp (Ev.use' (Ev.loc N S7 (.tl (.tl (.tl (.tl (.tl (.tl (.tl (.tl .hd))))))))) fun v8 h8 tk8 n8 s8 => ?_) (bim rfl rfl _))))
  obtain rfl := nt_ref n8
  have S8 := S7.grow s8
  refine w_dict1 hlow S8 (fun h' s' => (Ev.loc N S8 (.tl (.tl .hd))).grow s') fun D9 h9 tk9 lo9 S9 st9 => Ev.use' (Ev.loc N S9 (.tl (.tl (.tl (.tl (.tl (.tl (.tl (.tl (.tl (.tl .hd))))))))))) fun v10 h10 tk10 n10 s10 => ?_
  obtain rfl := nt_ref n10
  refine ⟨h10, tk10, _, rfl, S9.grow s10, fun od2 h11 tk11 hd2 S11 => ?_⟩
  refine c_dcmp true C S11 (.tail _ (.tail _ hmD)) (.head _) lo lo9 hod hd2 (fun _ => .hit val1 (lists_eqAt (PySem.IsL.isList (n := ln) (S11.get (.tail _ (.tail _ hmT)))) (PySem.IsL.isList (n := 0) (S11.get (.tail _ (.head _)))) hv e2 (in1_lt C)) .nil) (WP.mk (wpAny_truthy_bool ?_))
  have S11 := S11.drop
  refine WB.or (w_tcmp (c_bi (Ev.bi N C S11 (by k_is) (.tail _ (.tail _ (.tail _ (.tail _ (.tail _ (.tail _ (.tail _ (.tail _ (.tail _ (.tail _ (.head _))))))))))) PyProof.Rows.Boot.«repr» (by decide) rfl) fun h12 tk12 s12 => sp_i (w_ditem (S11.grow s12) (.tail _ hmD) hod val1 (Ev.loc N (S11.grow s12) (.tl (.tl (.tl (.tl (.tl (.tl (.tl (.tl .hd))))))))) (Ev.loc N (S11.grow s12) (.tl (.tl .hd))) fun h13 tk13 s13 => ?_)) (bim rfl rfl _))
  have S13 := (S11.grow s12).grow s13
  refine (sp_n (c_repr hg0 C S13 (.tail _ hmT) hv (by omega) fun h14 t14 tk14 s14 => ?_).out).out
  have S14 := S13.grow s14
  refine c_bi (Ev.bi N C S14 (by k_is) (.tail _ (.tail _ (.tail _ (.tail _ (.tail _ (.tail _ (.tail _ (.tail _ (.tail _ (.tail _ (.head _))))))))))) PyProof.Rows.Boot.«repr» (by decide) rfl) fun h15 tk15 s15 => sp_p (Ev.loc N (S14.grow s15) (.tl (.tl (.tl (.tl (.tl (.tl (.tl (.tl (.tl (.tl .hd))))))))))) fun v16 h16 tk16 n16 s16 => ?_
  obtain rfl := nt_ref n16
  have S16 := (S14.grow s15).grow s16
  refine sp_n (c_repr hg0 C S16 (.head _) hv2 (by omega) fun h17 t17 tk17 s17 => ?_).out
  refine .mk (by
    (with_reducible refine PySem.P.ne_str ?_)
    rw [txt_ne (ltext_nt e2).symm]
    refine (WP.mk (wpAny_truthy_bool ?_))
    exact WB.orN (x_nil (Nx.go (x_nil (Nx.go (x_nil (k D6 due2 0 h17 tk17 e2 (S16.grow s17))))))))

/-- a turn's end, one value -/
theorem law_turn4b {wi : Int} {num : Nat} {clr : Bool} {tag ah be : List UInt8} {f sc : Addr} {du tn va pk ru wh fi : Option Value} {od : Obj} {pl : List Value} {Pl : Addr} {pk0 : Nat} {p0 : List UInt8 × Value} (hg0 : A.guards = some []) (C : Cx w loose mean mg mb A env [] A₀ base base L 20) (le : LE env L)
    (S : St base L h lawNs (LV sc wi num 0 clr tag ah be D f [du, tn, some (.ref Pl), none, va, pk, ru, wh, fi, none]) news) (lo : (D == sysModules) = false) (hmD : (D, od) ∈ news) (hmP : (Pl, listOf pl.toArray pk0) ∈ news)
    (hod : od.IsDictOf (intKind prog w) (if clr && isDef p0.2 then [] else [((num : Int), v)])) (hnv : nt v = nt p0.2) (hps : Pcs news pl [p0]) (hv : VD p0.2)
    (k : ∀ va' h' tk', St base L h' lawNs (LV sc wi num 0 clr tag ah be D f [du, tn, some (.ref Pl), none, va', pk, ru, wh, fi, none]) news → QF .next ⟨h', gs, dr, tk', os⟩) :
    WP prog w A (execs ((lawLoop w).drop 5) env) QF E ⟨h, gs, dr, tk, os⟩ := by
  have N := le.N
  have hlow : sysModules < base.objs.size := modules_low C.T.nolimit
  refine x_if (Ts.gt (Ev.loc N S (.tl (.tl (.tl .hd)))) Ev.int) (fun hc => by simp at hc) (fun hc h2 tk2 s2 => ?_)
  have S2 := S.grow s2
  obtain ⟨T, tT, rfl, hmT⟩ : ∃ T t, pl = [.ref T] ∧ (T, tupO [.bytes p0.1.toArray t, p0.2]) ∈ news := by
    cases hps with
    | cons a b => cases b; obtain ⟨T, t, rfl, hm⟩ := a; exact ⟨T, t, rfl, hm⟩
  refine x_asg (w_itemT (gs := gs) (dr := dr) (os := os) (Ev.use' (Ev.item S2 (Ev.loc N S2 (.tl (.tl (.tl (.tl (.tl (.tl (.tl (.tl (.tl (.tl (.tl (.tl .hd))))))))))))) hmP (by decide) (by decide) (v := .ref T) rfl rfl) fun v3 h3 tk3 n3 s3 => ?_) (by decide) (by decide))
  obtain rfl := nt_ref n3
  have S3 := S2.grow s3
  refine ⟨T, _, p0.2, h3, tk3, 1, rfl, rfl, S3.get hmT, (by decide : seqIndex? 1 2 = some 1), rfl, fun tk4 => ?_⟩
  refine st_loc N S3 (.tl (.tl (.tl (.tl (.tl (.tl (.tl (.tl (.tl (.tl (.tl (.tl (.tl (.tl .hd)))))))))))))) fun h5 tk5 S5 => ?_
  have hts : ∀ {h : Heap} {news : List (Addr × Obj)}, St base L h lawNs (LV sc wi num 0 clr tag ah be D f [du, tn, some (.ref Pl), none, some (nt p0.2), pk, ru, wh, fi, none]) news → ∀ p1 p2 p3 p4, Ts prog w A env h (.BoolOp .And [.Name (Str.ofString "clears") p1, .UnaryOp .Not (.Name (Str.ofString "value") p2) p3] p4) (clr && isDef p0.2) := fun {h news} S p1 p2 p3 p4 =>
    Ts.cast (TsB.and (Ts.bool (Ev.loc N S (.tl (.tl (.tl (.tl .hd)))))) fun _ => TsB.and (Ts.not (Ts.vd (Ev.loc N S (.tl (.tl (.tl (.tl (.tl (.tl (.tl (.tl (.tl (.tl (.tl (.tl (.tl (.tl .hd))))))))))))))) hv)) fun _ => TsB.andN).ts (by simp)
  refine x_ifW (WB.wp (WB.or (w_tcmp (Ev.use' (Ev.loc N S5 (.tl (.tl (.tl (.tl (.tl (.tl (.tl (.tl .hd))))))))) fun v8 h8 tk8 n8 s8 => ?_) (bim rfl rfl _))))
  obtain rfl := nt_ref n8
  have S8 := S5.grow s8
  refine w_ite ((hts S8 _ _ _ _).use _ (stays_refl _) gs dr tk8 os _ _ fun h9 tk9 s9 => ?_)
  have S9 := S8.grow s9
  by_cases hcc : (clr && isDef p0.2) = true
  · rw [hcc]
    rw [if_pos hcc] at hod
    refine w_dict0 hlow S9 fun D10 h10 lo10 S10 st10 => ?_
    refine c_dcmp true C S10 (.tail _ hmD) (.head _) lo lo10 hod dict0_of (fun _ => .nil) (WP.mk (wpAny_truthy_bool ?_))
    have S10 := S10.drop
    refine WB.or (w_tcmp (c_bi (Ev.bi N C S10 (by k_is) (.tail _ (.tail _ (.tail _ (.tail _ (.tail _ (.tail _ (.tail _ (.tail _ (.tail _ (.tail _ (.head _))))))))))) PyProof.Rows.Boot.«repr» (by decide) rfl) fun h12 tk12 s12 => sp_i (w_values (p3 := ⟨0, 0, 0, 0⟩) C.hand (S10.grow s12) hmD hod lo (by simp) (Ev.bi N C (S10.grow s12) (by k_is) (.tail _ (.tail _ (.tail _ (.tail _ (.tail _ (.tail _ (.tail _ (.tail _ (.tail _ (.tail _ (.tail _ (.head _)))))))))))) PyProof.Rows.Boot.«list» (by decide) rfl) (Ev.loc N (S10.grow s12) (.tl (.tl (.tl (.tl (.tl (.tl (.tl (.tl .hd))))))))) fun D13 k13 h13 tk13 r13 S13 => ?_)) (bim rfl rfl _))
    refine (sp_n (c_repr hg0 C S13 (.head _) (by simp) (by simp) fun h14 t14 tk14 s14 => ?_).out).out
    have S14 := (S13.grow s14).second.drop
    refine c_bi (Ev.bi N C S14 (by k_is) (.tail _ (.tail _ (.tail _ (.tail _ (.tail _ (.tail _ (.tail _ (.tail _ (.tail _ (.tail _ (.head _))))))))))) PyProof.Rows.Boot.«repr» (by decide) rfl) fun h15 tk15 s15 => sp_i (w_ite ((hts (S14.grow s15) _ _ _ _).use _ (stays_refl _) gs dr tk15 os _ _ fun h16 tk16 s16 => ?_))
    rw [hcc]
    have S16 := (S14.grow s15).grow s16
    refine w_list (ws := []) S16 EvL.nil (by decide) fun D17 ws17 h17 tk17 e17 S17 st17 => ?_
    obtain rfl := List.map_eq_nil_iff.mp e17
    refine (sp_n (c_repr hg0 C S17 (.head _) (by simp) (by simp) fun h18 t18 tk18 s18 => ?_).out).out
    refine .mk (by
      (with_reducible refine PySem.P.ne_str ?_)
      rw [txt_ne (show ltext (List.map (fun x : Int × Value => x.2) []) = ltext [] from rfl)]
      refine (WP.mk (wpAny_truthy_bool ?_))
      exact WB.orN (x_nil (Nx.go (x_nil (Nx.go (x_nil (k _ h18 tk18 (S17.grow s18).drop)))))))
  · have hcc : (clr && isDef p0.2) = false := by simpa using hcc
    rw [hcc]
    rw [hcc, if_neg Bool.false_ne_true] at hod
    refine w_dict1 hlow S9 (fun h' s' => (Ev.loc N S9 (.tl (.tl .hd))).grow s') fun D10 h10 tk10 lo10 S10 st10 => Ev.use' (Ev.loc N S10 (.tl (.tl (.tl (.tl (.tl (.tl (.tl (.tl (.tl (.tl (.tl (.tl (.tl (.tl .hd))))))))))))))) fun v11 h11 tk11 n11 s11 => ?_
    refine ⟨h11, tk11, _, rfl, S10.grow s11, fun od2 h12 tk12 hd2 S12 => ?_⟩
    refine c_dcmp true C S12 (.tail _ hmD) (.head _) lo lo10 hod hd2 (fun _ => .hit val1 (VD.eqAt (hv.tok hnv) (n11.trans hnv.symm)) .nil) (WP.mk (wpAny_truthy_bool ?_))
    have S12 := S12.drop
    refine WB.or (w_tcmp (c_bi (Ev.bi N C S12 (by k_is) (.tail _ (.tail _ (.tail _ (.tail _ (.tail _ (.tail _ (.tail _ (.tail _ (.tail _ (.tail _ (.head _))))))))))) PyProof.Rows.Boot.«repr» (by decide) rfl) fun h12 tk12 s12 => sp_i (w_values (p3 := ⟨0, 0, 0, 0⟩) C.hand (S12.grow s12) hmD hod lo (by simp) (Ev.bi N C (S12.grow s12) (by k_is) (.tail _ (.tail _ (.tail _ (.tail _ (.tail _ (.tail _ (.tail _ (.tail _ (.tail _ (.tail _ (.tail _ (.head _)))))))))))) PyProof.Rows.Boot.«list» (by decide) rfl) (Ev.loc N (S12.grow s12) (.tl (.tl (.tl (.tl (.tl (.tl (.tl (.tl .hd))))))))) fun D13 k13 h13 tk13 r13 S13 => ?_)) (bim rfl rfl _))
    have hv1 : ∀ u ∈ [v], VD u := fun u hu => by rw [List.mem_singleton.mp hu]; exact hv.tok hnv
    refine (sp_n (c_repr (xs := [v]) hg0 C S13 (.head _) hv1 (by decide : 1 ≤ 100) fun h14 t14 tk14 s14 => ?_).out).out
    have S14 := (S13.grow s14).second.drop
    refine c_bi (Ev.bi N C S14 (by k_is) (.tail _ (.tail _ (.tail _ (.tail _ (.tail _ (.tail _ (.tail _ (.tail _ (.tail _ (.tail _ (.head _))))))))))) PyProof.Rows.Boot.«repr» (by decide) rfl) fun h15 tk15 s15 => sp_i (w_ite ((hts (S14.grow s15) _ _ _ _).use _ (stays_refl _) gs dr tk15 os _ _ fun h16 tk16 s16 => ?_))
    rw [hcc]
    have S16 := (S14.grow s15).grow s16
    refine w_list (ws := [nt p0.2]) S16 (.cons (Ev.loc N S16 (.tl (.tl (.tl (.tl (.tl (.tl (.tl (.tl (.tl (.tl (.tl (.tl (.tl (.tl .hd))))))))))))))) EvL.nil) (by decide : 1 ≤ 16777216) fun D17 ws17 h17 tk17 e17 S17 st17 => ?_
    obtain ⟨u, rfl, hu⟩ := map_nt1 e17
    have hv3 : ∀ x ∈ [u], VD x := fun x hx => by rw [List.mem_singleton.mp hx]; exact hv.tok hu
    refine (sp_n (c_repr (xs := [u]) hg0 C S17 (.head _) hv3 (by decide : 1 ≤ 100) fun h18 t18 tk18 s18 => ?_).out).out
    refine .mk (by
      (with_reducible refine PySem.P.ne_str ?_)
      rw [txt_ne (ltext_nt (show [v].map nt = [u].map nt by simp [hu, hnv]))]
      refine (WP.mk (wpAny_truthy_bool ?_))
      exact WB.orN (x_nil (Nx.go (x_nil (Nx.go (x_nil (k _ h18 tk18 (S17.grow s18).drop)))))))
end
end Mine
end
section
open PySem PySem.Spec PySem.Calls PySem.W PyProof.Rows
open LCg (NsObj ns_obj fr_but)
set_option maxRecDepth 100000
set_option maxHeartbeats 1000000
set_option linter.unusedVariables false
namespace Mine

section
variable {prog : Program} {w : World} {loose : List Str} {mean : ExcName → Option Value} {mg mb : Str → Option Value} {A A₀ : Around} {env cenv : Env} {outer : List Env} {base h₀ h : Heap} {L D : Addr} {lv : Nat} {ns gl : List Str} {vs vs1 vs2 : List (Option Value)} {news nw foot rest dl tl Kp cl : List (Addr × Obj)} {x y n1 n2 : Str} {v u : Value} {p p1 p2 p3 p4 p' np cpos : Pos} {kk : Nat}
variable {gs : Array GenState} {dr : Drawn} {tk : Nat} {os : OsState} {Q E : Value → Shared → Prop} {QF : Flow → Shared → Prop} {e e1 e2 i o a b : Expr} {pos : Pos} {elts : List Expr} {rst : List Stmt} {s : Shared} {oo : Obj × Obj × Obj}

/-- what stands of the last turn's pieces -/
structure LP (kd bi : Int) (md : Nat) (tag : List UInt8) (Pl : Addr) (ps : List (List UInt8 × Value)) (ob : List UInt8) (X : List (Addr × Obj)) : Prop where
  at_ : ∃ pl k0, (Pl, listOf pl.toArray k0) ∈ X ∧ Pcs X pl ps
  good : ∀ p ∈ ps, Good kd bi p.2 p.1 ∧ p.1.length ≤ 16
  len : ps.length ≤ 3
  blk : Blk md tag ps ob
  ob1 : ob.length ≤ 1000
  ob0 : 0 < ob.length
  ne : md ≠ 2 → ps ≠ []
/-- the loop's state -/
structure LJ (prog : Program) (w : World) (L : Addr) (oo : Obj × Obj × Obj) (kd wi bi : Int) (num md : Nat) (clr : Bool) (tag ah be : List UInt8) (sc D f d l : Addr) (t2 t3 : Tok) (cl R : List (Addr × Obj)) (i : Nat) (vs : List (Option Value)) (nw : List (Addr × Obj)) : Prop where
  all : ∃ dl tl vt X Du due dn its tv pcv vv kv rv wv fv, vs = LV sc wi num md clr tag ah be D f [some (.ref Du), tv, pcv, none, vv, kv, rv, wv, fv, none] ∧
    nw = dl ++ (LC L oo d kd bi t2 t3 ++ ((tl ++ vt) ++ ((Du, listOf (List.toArray due) dn) :: (cl ++ (R ++ X))))) ∧ Draw d l dl ∧ VTs vt ∧ TBi prog w md D num its tl ∧ its.map nt = due.map nt ∧ (∀ v ∈ its, VD v) ∧ due.length ≤ 3 * i ∧
    (0 < i → ∃ Pl ps ob, pcv = some (.ref Pl) ∧ rv = some (.bytes (List.toArray ob) 0) ∧ LP kd bi md tag Pl ps ob X)

theorem TBo_pos {md : Nat} {clr : Bool} {D : Addr} {key : Int} {its : List Value} {ps : List (List UInt8 × Value)} {tl : List (Addr × Obj)} (h : TBo prog w md clr D key its ps tl) (hm : 0 < md) : ∃ vals, vals.map nt = ps.map (fun p => nt p.2) ∧ TLm prog w D key (its ++ vals) tl := by
  cases md with
  | zero => omega
  | succ m => exact h
theorem TBi_pos {md : Nat} {D : Addr} {key : Int} {its : List Value} {tl : List (Addr × Obj)} (hm : 0 < md) (h : TLs prog w D key its tl) : TBi prog w md D key its tl := by
  cases md with
  | zero => omega
  | succ m => exact h
theorem TBe_pos {md : Nat} {D : Addr} {key : Int} {its : List Value} {tl tl' : List (Addr × Obj)} (h : TBe prog w md D key its tl tl') (hm : 0 < md) : TLm prog w D key its tl' := by
  cases md with
  | zero => omega
  | succ m => exact h
/-- one turn -/
theorem law_turn {kd wi bi : Int} {num md : Nat} {clr : Bool} {tag ah be : List UInt8} {f d l sc : Addr} {t2 t3 : Tok} {R cl tail nw : List (Addr × Obj)} {i : Nat} {vs : List (Option Value)} (hg0 : A.guards = some []) (C : Cx w loose mean mg mb A env [] A₀ base base L 20) (le : LE env L) (F : LF prog w kd wi bi num md clr tag ah be f cl) (lo : (D == sysModules) = false) (hi : i ≤ 10)
    (J : LJ prog w L oo kd wi bi num md clr tag ah be sc D f d l t2 t3 cl R i vs nw) (S : St base L h lawNs (vs.set 11 (some u)) (nw ++ tail))
    (k : ∀ h' tk' vs' nw', St base L h' lawNs vs' (nw' ++ tail) → LJ prog w L oo kd wi bi num md clr tag ah be sc D f d l t2 t3 cl R (i + 1) vs' nw' → QF .next ⟨h', gs, dr, tk', os⟩) :
    WP prog w A (execs (lawLoop w) env) QF E ⟨h, gs, dr, tk, os⟩ := by
  obtain ⟨dl, tl, vt, X, Du, due, dn, its, tv, pcv, vv, kv, rv, wv, fv, rfl, rfl, Dr, hV, hT, hid, hvd, hdl, _⟩ := J.all
  have hil : its.length = due.length := by have := congrArg List.length hid; simpa using this
  have S1 : St base L h lawNs (LV sc wi num md clr tag ah be D f [some (.ref Du), some u, pcv, none, vv, kv, rv, wv, fv, none]) (dl ++ (LC L oo d kd bi t2 t3 ++ ((tl ++ vt) ++ ((Du, listOf (List.toArray due) dn) :: (cl ++ (R ++ tail)))))) := S.sel X
  refine law_turn1 C le F Dr S1 fun Pl pl pk0 pnw ps dl2 h2 tk2 Dr2 hps hg hlen hne h0 S2 => ?_
  have hps2 : Pcs (dl2 ++ (LC L oo d kd bi t2 t3 ++ ((Pl, listOf pl.toArray pk0) :: (pnw ++ ((tl ++ vt) ++ ((Du, listOf (List.toArray due) dn) :: (cl ++ (R ++ tail)))))))) pl ps := hps.mono fun q hq => List.mem_append_right _ (List.mem_append_right _ (.tail _ (List.mem_append_left _ hq)))
  refine law_turn2 C le F S2 (List.mem_append_right _ (List.mem_append_right _ (.head _))) hps2 hg hlen hne h0 fun ob kv2 h3 tk3 hB hob1 hob0 S3 => ?_
  have S4 : St base L h3 lawNs (LV sc wi num md clr tag ah be D f [some (.ref Du), some u, some (.ref Pl), none, vv, kv2, some (.bytes ob.toArray 0), wv, fv, none]) ((tl ++ vt) ++ (dl2 ++ (LC L oo d kd bi t2 t3 ++ ((Pl, listOf pl.toArray pk0) :: (pnw ++ ((Du, listOf (List.toArray due) dn) :: (cl ++ (R ++ tail)))))))) := S3.sel []
  refine law_turn3 C le F S4 (fun q hq => List.mem_append_right _ (List.mem_append_right _ (.tail _ (List.mem_append_right _ (.tail _ (List.mem_append_left _ hq)))))) hg hlen hB hob1 hT lo hV (by omega) fun h5 tk5 tl2 vt2 wv2 fv2 hTo hV2 S5 => ?_
  have hm5 : ∀ q ∈ dl2 ++ (LC L oo d kd bi t2 t3 ++ ((Pl, listOf pl.toArray pk0) :: (pnw ++ ((Du, listOf (List.toArray due) dn) :: (cl ++ (R ++ tail)))))), q ∈ (tl2 ++ vt2) ++ (dl2 ++ (LC L oo d kd bi t2 t3 ++ ((Pl, listOf pl.toArray pk0) :: (pnw ++ ((Du, listOf (List.toArray due) dn) :: (cl ++ (R ++ tail))))))) := fun q hq => List.mem_append_right _ hq
  have hps5 : Pcs ((tl2 ++ vt2) ++ (dl2 ++ (LC L oo d kd bi t2 t3 ++ ((Pl, listOf pl.toArray pk0) :: (pnw ++ ((Du, listOf (List.toArray due) dn) :: (cl ++ (R ++ tail)))))))) pl ps := hps.mono fun q hq => hm5 _ (List.mem_append_right _ (List.mem_append_right _ (.tail _ (List.mem_append_left _ hq))))
  have hmP := hm5 _ (List.mem_append_right _ (List.mem_append_right _ (.head _)))
  have lp : LP kd bi md tag Pl ps ob ((Pl, listOf pl.toArray pk0) :: pnw) := ⟨⟨pl, pk0, .head _, hps.mono fun q hq => .tail _ hq⟩, hg, hlen, hB, hob1, hob0, hne⟩
  have hmd := F.md2
  by_cases e0 : md = 0
  · subst e0
    obtain ⟨od, v, p0, rfl, hnv, rfl, hod⟩ := hTo
    have hgp := hg p0 (.head _)
    refine law_turn4b hg0 C le S5 lo (List.mem_append_left _ (List.mem_append_left _ (.head _))) hmP hod hnv hps5 hgp.1.vd fun vv2 h6 tk6 S6 => ?_
    refine k h6 tk6 _ (dl2 ++ (LC L oo d kd bi t2 t3 ++ (([(D, od)] ++ vt2) ++ ((Du, listOf (List.toArray due) dn) :: (cl ++ (R ++ ((Pl, listOf pl.toArray pk0) :: pnw))))))) (S6.sel []) ⟨dl2, [(D, od)], vt2, (Pl, listOf pl.toArray pk0) :: pnw, Du, due, dn, its, some u, some (.ref Pl), vv2, kv2, some (.bytes ob.toArray 0), wv2, fv2, rfl, rfl, Dr2, hV2, ⟨od, _, rfl, hod, ?_⟩, hid, hvd, by omega, fun _ => ⟨Pl, [p0], ob, rfl, rfl, lp⟩⟩
    split
    · exact .inl rfl
    · exact .inr ⟨v, rfl⟩
  · obtain ⟨vals, hvals, od, lT, ln, rfl, hod⟩ : ∃ vals, vals.map nt = ps.map (fun p => nt p.2) ∧ TLm prog w D num (its ++ vals) tl2 := TBo_pos hTo (by omega)
    have hvv : ∀ v ∈ its ++ vals, VD v := fun v hm => by
      rcases List.mem_append.mp hm with hm | hm
      · exact hvd v hm
      · obtain ⟨i, hi, rfl⟩ := List.mem_iff_getElem.mp hm
        have hl2 : vals.length = ps.length := by have := congrArg List.length hvals; simpa using this
        have h3 : i < ps.length := by omega
        have := congrArg (fun l => l[i]?) hvals
        simp only [List.getElem?_map, List.getElem?_eq_getElem hi, List.getElem?_eq_getElem h3, Option.map_some, Option.some.injEq] at this
        exact ((hg _ (List.getElem_mem h3)).1.vd).tok this
    refine law_turn4a (cl := cl) hg0 (by omega) C le S5 lo (List.mem_append_left _ (List.mem_append_left _ (.head _))) (List.mem_append_left _ (List.mem_append_left _ (.tail _ (.head _)))) (hm5 _ (List.mem_append_right _ (List.mem_append_right _ (.tail _ (List.mem_append_right _ (.head _)))))) hmP hod hps5 (by rw [List.map_append, hid, hvals]) hvv (by omega) hlen fun Du2 due2 dn2 h6 tk6 hd2 S6 => ?_
    refine k h6 tk6 _ (dl2 ++ (LC L oo d kd bi t2 t3 ++ (([(D, od), (lT, listOf (its ++ vals).toArray ln)] ++ vt2) ++ ((Du2, listOf (List.toArray due2) dn2) :: (cl ++ (R ++ ((Pl, listOf pl.toArray pk0) :: pnw))))))) (S6.sel [(Du, listOf (List.toArray due) dn)]) ⟨dl2, [(D, od), (lT, listOf (its ++ vals).toArray ln)], vt2, (Pl, listOf pl.toArray pk0) :: pnw, Du2, due2, dn2, its ++ vals, some u, some (.ref Pl), vv, kv2, some (.bytes ob.toArray 0), wv2, fv2, rfl, rfl, Dr2, hV2, ?_, hd2.symm, hvv, ?_, fun _ => ⟨Pl, ps, ob, rfl, rfl, lp⟩⟩
    · exact TBi_pos (by omega) (.inr ⟨od, lT, ln, rfl, hod⟩)
    · have h1 := congrArg List.length hd2
      have h2 := congrArg List.length hvals
      simp only [List.length_map, List.length_append] at h1 h2
      omega

/-- the turns -/
theorem law_loop {kd wi bi : Int} {num md : Nat} {clr : Bool} {tag ah be : List UInt8} {f d l sc : Addr} {t2 t3 : Tok} {R cl dl vt : List (Addr × Obj)} (hg0 : A.guards = some []) (C : Cx w loose mean mg mb A env [] A₀ base base L 20) (le : LE env L) (F : LF prog w kd wi bi num md clr tag ah be f cl) (lo : (D == sysModules) = false) (Dr : Draw d l dl) (hV : VTs vt)
    (S : St base L h lawNs (LV sc wi num md clr tag ah be D f (List.replicate 10 none)) (dl ++ (LC L oo d kd bi t2 t3 ++ ((D, dict0) :: (cl ++ (vt ++ R))))))
    (k : ∀ (Du Pl : Addr) (ps : List (List UInt8 × Value)) (ob : List UInt8) (tv vv kv wv fv : Option Value) (dl vt X : List (Addr × Obj)) h' tk', Draw d l dl → VTs vt → LP kd bi md tag Pl ps ob X →
      St base L h' lawNs (LV sc wi num md clr tag ah be D f [some (.ref Du), tv, some (.ref Pl), none, vv, kv, some (.bytes ob.toArray 0), wv, fv, none]) (dl ++ (LC L oo d kd bi t2 t3 ++ (vt ++ (cl ++ (R ++ X))))) → WP prog w A (execs ((lawBody w).drop 13) env) QF E ⟨h', gs, dr, tk', os⟩) :
    WP prog w A (execs ((lawBody w).drop 11) env) QF E ⟨h, gs, dr, tk, os⟩ := by
  have N := le.N
  refine x_asg (w_list (ws := []) S EvL.nil (by decide) fun Du ws2 h2 tk2 e2 S2 st2 => ?_)
  obtain rfl := List.map_eq_nil_iff.mp e2
  refine st_loc N S2 (.tl (.tl (.tl (.tl (.tl (.tl (.tl (.tl (.tl (.tl .hd)))))))))) fun h3 tk3 S3 => ?_
  have S3 : St base L h3 lawNs (LV sc wi num md clr tag ah be D f (some (.ref Du) :: List.replicate 9 none)) (dl ++ (LC L oo d kd bi t2 t3 ++ (([(D, dict0)] ++ vt) ++ ((Du, listOf (List.toArray []) 0) :: (cl ++ (R ++ [])))))) := S3.sel []
  refine x_for (h₀ := base) (L := L) (ns := lawNs) (gs := gs) (dr := dr) (os := os) (fun vs u => vs.set 11 (some u)) N ?_
  refine c_ty (Ev.bi N C S3 (by k_is) (.tail _ (.tail _ (.tail _ (.tail _ (.tail _ (.tail _ (.tail _ (.head _)))))))) PyProof.Rows.Boot.«range» (by decide) rfl) fun h4 tk4 s4 => ?_
  refine sp_i (w_bin (Ev.use' Ev.int fun v5 h5 tk5 n5 s5 => ?_))
  obtain ⟨t5, rfl⟩ := nt_int n5
  have S5 := (S3.grow s4).grow s5
  refine w_take C N.gl (.tail _ (.tail _ (.head _))) S5 Dr (Ev.cellX N.kind le.ce1 S5 (List.mem_append_right _ (.head _)) rfl) Ev.int (by decide) fun r t6 h6 tk6 dl2 Dr2 r0 r1 S6 => ?_
  refine .mk (by
    (with_reducible refine add_int ?_)
    refine (sp_n ?_).out
    refine call_range_1 ?_
    have S8 := S6.push { cls := .type "range", data := .fields #[.int 0 (tk6 + 1), .int (1 + r) tk6, .int 1 (tk6 + 1 + 1)] }
    refine it_range C.hand S8 (IsRange.new ..) (by omega) (by omega) fun I oI h9 S9 st9 W sx => ?_
    have S9 := S9.second
    refine ⟨I, oI, _, _, _, _, LJ prog w L oo kd wi bi num md clr tag ah be sc D f d l t2 t3 cl R, h9, _, _, _, rfl, rfl, W, S9, sx, ⟨dl2, [(D, dict0)], vt, [], Du, [], 0, [], none, none, none, none, none, none, none, rfl, rfl, Dr2, hV, ?_, rfl, by simp, by simp, fun h => absurd h (by decide)⟩, fun _ _ _ h' hj hg s => trivial, ?_, ?_, ?_⟩
    · have hmd := F.md2
      have h012 : md = 0 ∨ md = 1 ∨ md = 2 := by omega
      rcases h012 with rfl | rfl | rfl
      · exact ⟨dict0, [], rfl, dict0_of, .inl rfl⟩
      · exact .inl ⟨rfl, dict0, rfl, dict0_of⟩
      · exact .inl ⟨rfl, dict0, rfl, dict0_of⟩
    · rintro i vs nw v J
      obtain ⟨dl, tl, vt, X, Du, due, dn, its, tv, pcv, vv, kv, rv, wv, fv, rfl, rfl, _⟩ := J.all
      exact (.tl (.tl (.tl (.tl (.tl (.tl (.tl (.tl (.tl (.tl (.tl .hd)))))))))))
    · rintro i vs nw tail h tk v E' hlt hP J S
      refine law_turn hg0 C le F lo (by omega) J S fun h' tk' vs' nw' S' J' => ?_
      exact ⟨h', tk', vs', nw', rfl, S', J'⟩
    · rintro h tk vs nw J S
      obtain ⟨dl, tl, vt, X, Du, due, dn, its, tv, pcv, vv, kv, rv, wv, fv, rfl, rfl, Dr, hV, hT, hid, hvd, hdl, hp⟩ := J.all
      obtain ⟨Pl, ps, ob, rfl, rfl, lp⟩ := hp (by omega)
      exact k Du Pl ps ob tv vv kv wv fv dl vt X h tk Dr hV lp (S.sel (tl ++ [(Du, listOf (List.toArray due) dn)])))
end
end Mine
end
section
open PySem PySem.Spec PySem.Calls PySem.W PyProof.Rows
open LCg (NsObj ns_obj fr_but)
set_option maxRecDepth 100000
set_option maxHeartbeats 1000000
set_option linter.unusedVariables false
namespace Mine

section
variable {prog : Program} {w : World} {loose : List Str} {mean : ExcName → Option Value} {mg mb : Str → Option Value} {A A₀ : Around} {env cenv : Env} {outer : List Env} {base h₀ h : Heap} {L D : Addr} {lv : Nat} {ns gl : List Str} {vs vs1 vs2 : List (Option Value)} {news nw foot rest dl tl Kp cl : List (Addr × Obj)} {x y n1 n2 : Str} {v u : Value} {p p1 p2 p3 p4 p' np cpos : Pos} {kk : Nat}
variable {gs : Array GenState} {dr : Drawn} {tk : Nat} {os : OsState} {Q E : Value → Shared → Prop} {QF : Flow → Shared → Prop} {e e1 e2 i o a b : Expr} {pos : Pos} {elts : List Expr} {rst : List Stmt} {s : Shared} {oo : Obj × Obj × Obj}

theorem pick_upto (vs : List Value) {y : Int} (h : 0 ≤ y) : slicePick vs.toArray none (some y) none = (vs.take y.toNat).toArray := by
  have e : sliceBounds none (some y) none vs.toArray.size = (((0 : Nat) : Int), ((min y.toNat vs.toArray.size : Nat) : Int), 1) := by
    simp only [sliceBounds, Option.getD_none, show (1 : Int) > 0 by decide, if_true, if_neg (show ¬ (y < 0) by omega)]
    congr 1
    congr 1
    omega
  rw [kmk_pick_nat _ e]
  show ((vs.drop 0).take (min y.toNat vs.toArray.size - 0)).toArray = _
  rw [List.drop_zero, Nat.sub_zero, List.size_toArray, kmk_take_min]
theorem pick_upto_neg (vs : List Value) {y : Int} (h : y < 0) : slicePick vs.toArray none (some y) none = (vs.take (vs.length - (-y).toNat)).toArray := by
  have e : sliceBounds none (some y) none vs.toArray.size = (((0 : Nat) : Int), ((vs.toArray.size - (-y).toNat : Nat) : Int), 1) := by
    simp only [sliceBounds, Option.getD_none, show (1 : Int) > 0 by decide, if_true, if_pos h]
    congr 1
    congr 1
    omega
  rw [kmk_pick_nat _ e]
  show ((vs.drop 0).take (vs.toArray.size - (-y).toNat - 0)).toArray = _
  rw [List.drop_zero, Nat.sub_zero, List.size_toArray]
theorem clip_nat {n j : Nat} (h : j ≤ n) : clipAt n (j : Int) = j := by unfold clipAt; omega
theorem LF_tl {kd wi bi : Int} {num md : Nat} {clr : Bool} {tag ah be : List UInt8} {f : Addr} {cl : List (Addr × Obj)} (F : LF prog w kd wi bi num md clr tag ah be f cl) : tag.length ≤ 11 := by
  rw [F.tag_]
  exact vB_len 10 _ (Nat.lt_of_lt_of_le (m := 2 ^ 40) (by have := F.n1; have := F.kw.wire; split <;> omega) (by decide))
/-- what is cut -/
structure EB (kd bi : Int) (md : Nat) (tag : List UInt8) (ps ps1 : List (List UInt8 × Value)) (ob1 : List UInt8) : Prop where
  good : ∀ p ∈ ps1, Good kd bi p.2 p.1 ∧ p.1.length ≤ 16
  len : ps1.length ≤ 3
  blk : Blk md tag ps1 ob1
  one : md = 1 → ∃ p, ps1 = [p]
  ob1_ : ob1.length ≤ 1000
  ob0 : 0 < ob1.length
  sel : ps1 = if md = 2 then ps else ps.take 1

theorem law_end1 {kd wi bi : Int} {num md : Nat} {clr : Bool} {tag ah be : List UInt8} {f d l sc : Addr} {t2 t3 : Tok} {du tn va pk wh fi : Option Value} {R : List (Addr × Obj)} {cl dl X : List (Addr × Obj)} {Pl : Addr} {ps : List (List UInt8 × Value)} {ob : List UInt8} (C : Cx w loose mean mg mb A env [] A₀ base base L 20) (le : LE env L) (F : LF prog w kd wi bi num md clr tag ah be f cl) (Dr : Draw d l dl) (lp : LP kd bi md tag Pl ps ob X) (hX : ∀ q ∈ X, q ∈ R)
    (S : St base L h lawNs (LV sc wi num md clr tag ah be D f [du, tn, some (.ref Pl), none, va, pk, some (.bytes ob.toArray 0), wh, fi, none]) (dl ++ (LC L oo d kd bi t2 t3 ++ R)))
    (k : ∀ (ob1 : List UInt8) (ps1 : List (List UInt8 × Value)) (j : Nat) dl' h' tk', EB kd bi md tag ps ps1 ob1 → j < ob1.length → Draw d l dl' →
      St base L h' lawNs (LV sc wi num md clr tag ah be D f [du, tn, some (.ref Pl), some (.bytes ob1.toArray 0), va, pk, some (.bytes ob.toArray 0), some (.bytes (ah ++ tag ++ ob1.take j).toArray 0), some (.int ((ah ++ tag).length : Nat) 0), some (.int j 0)]) (dl' ++ (LC L oo d kd bi t2 t3 ++ R)) →
      WP prog w A (execs ((lawBody w).drop 17) env) QF E ⟨h', gs, dr, tk', os⟩) :
    WP prog w A (execs ((lawBody w).drop 13) env) QF E ⟨h, gs, dr, tk, os⟩ := by
  have N := le.N
  have htl := LF_tl F
  have hal := F.ah_
  have hmd := F.md2
  have bi_ := fun (h : Heap) (vs : List (Option Value)) (news : List (Addr × Obj)) (S : St base L h lawNs vs news) (p : Pos) => (Ev.bi (prog := prog) (p := p) N C S (by k_is) (.tail _ (.tail _ (.tail _ (.tail _ (.tail _ (.tail _ (.tail _ (.tail _ (.head _))))))))) PyProof.Rows.Boot.«len» (by decide) rfl)
  refine x_asg (WP.mono (Q := fun v s => ∃ (ob1 : List UInt8) (ps1 : List (List UInt8 × Value)) (t : Tok) (h : Heap) (tk : Nat), v = .bytes ob1.toArray t ∧ s = ⟨h, gs, dr, tk, os⟩ ∧ EB kd bi md tag ps ps1 ob1 ∧ St base L h lawNs (LV sc wi num md clr tag ah be D f [du, tn, some (.ref Pl), none, va, pk, some (.bytes ob.toArray 0), wh, fi, none]) (dl ++ (LC L oo d kd bi t2 t3 ++ R))) ?_ fun v s hv => ?_)
  · refine w_ite ((Ts.ne (Ev.loc N S (.tl (.tl (.tl .hd)))) Ev.int).use _ (stays_refl _) gs dr tk os _ _ fun h2 tk2 s2 => ?_)
    have S2 := S.grow s2
    split
    · rename_i hc
      have hm2 : md ≠ 2 := fun e => by rw [e] at hc; cases hc
      obtain ⟨pl, k0, hm, hps⟩ := lp.at_
      obtain ⟨p0, pr, rfl⟩ : ∃ p0 pr, ps = p0 :: pr := by
        cases ps with
        | nil => exact absurd rfl (lp.ne hm2)
        | cons a b => exact ⟨a, b, rfl⟩
      have hmem : ∀ q ∈ X, q ∈ dl ++ (LC L oo d kd bi t2 t3 ++ R) := fun q hq => List.mem_append_right _ (List.mem_append_right _ (hX q hq))
      obtain ⟨T, tT, pr2, rfl, hmT⟩ : ∃ T t pr2, pl = .ref T :: pr2 ∧ (T, tupO [.bytes p0.1.toArray t, p0.2]) ∈ X := by
        cases hps with
        | cons a b => obtain ⟨T, t, rfl, hmx⟩ := a; exact ⟨T, t, _, rfl, hmx⟩
      refine w_itemT (gs := gs) (dr := dr) (os := os) (Ev.use' (Ev.item S2 (Ev.loc N S2 (.tl (.tl (.tl (.tl (.tl (.tl (.tl (.tl (.tl (.tl (.tl (.tl .hd))))))))))))) (hmem _ hm) (by decide) (by decide) (v := .ref T) rfl rfl) fun v3 h3 tk3 n3 s3 => ?_) (by decide) (by decide)
      obtain rfl := nt_ref n3
      have S3 := S2.grow s3
      have hg := lp.good p0 (.head _)
      refine ⟨T, _, .bytes p0.1.toArray tT, h3, tk3, 0, rfl, rfl, S3.get (hmem _ hmT), (by decide : seqIndex? 0 2 = some 0), rfl, fun tk4 => ⟨p0.1, [p0], tT, h3, tk4, rfl, rfl, ⟨?_, by simp, ?_, fun _ => ⟨p0, rfl⟩, by omega, hg.1.pos, by rw [if_neg hm2]; rfl⟩, S3⟩⟩
      · intro p hp; rw [List.mem_singleton.mp hp]; exact hg
      · have h01 : md = 0 ∨ md = 1 := by omega
        rcases h01 with rfl | rfl
        · exact ⟨p0, rfl, rfl⟩
        · exact ⟨by simp, rfl⟩
    · rename_i hc
      have hm2 : md = 2 := by
        have h012 : md = 0 ∨ md = 1 ∨ md = 2 := by omega
        rcases h012 with rfl | rfl | rfl
        · exact absurd rfl hc
        · exact absurd rfl hc
        · rfl
      refine Ev.use' (Ev.loc N S2 (.tl (.tl (.tl (.tl (.tl (.tl (.tl (.tl (.tl (.tl (.tl (.tl (.tl (.tl (.tl (.tl .hd))))))))))))))))) fun v3 h3 tk3 n3 s3 => ?_
      obtain ⟨t3', rfl⟩ := nt_bytes n3
      exact ⟨ob, ps, t3', h3, tk3, rfl, rfl, ⟨lp.good, lp.len, lp.blk, fun e => by omega, lp.ob1, lp.ob0, by rw [if_pos hm2]⟩, S2.grow s3⟩
  obtain ⟨ob1, ps1, t1, h2, tk2, rfl, rfl, eb, S2⟩ := hv
  refine st_loc N S2 (.tl (.tl (.tl (.tl (.tl (.tl (.tl (.tl (.tl (.tl (.tl (.tl (.tl .hd))))))))))))) fun h3 tk3 S3 => ?_
  have hob := eb.ob1_
  have hob0 := eb.ob0
  refine x_asg (w_take (many := (ob1.length : Int)) C N.gl (.tail _ (.tail _ (.head _))) S3 Dr (Ev.cellX N.kind le.ce1 S3 (List.mem_append_right _ (.head _)) rfl) (Ev.cast (Ev.lenB (bi_ _ _ _ S3 _) (Ev.loc N S3 (.tl (.tl (.tl (.tl (.tl (.tl (.tl (.tl (.tl (.tl (.tl (.tl (.tl .hd)))))))))))))) (by rw [List.size_toArray]; omega)) (by rw [List.size_toArray])) (by omega) fun r t4 h4 tk4 dl2 Dr2 r0 r1 S4 => ?_)
  obtain ⟨j, rfl⟩ := Int.eq_ofNat_of_zero_le r0
  have hj : j < ob1.length := by omega
  refine st_loc N S4 (.tl (.tl (.tl (.tl (.tl (.tl (.tl (.tl (.tl (.tl (.tl (.tl (.tl (.tl (.tl (.tl (.tl (.tl (.tl .hd))))))))))))))))))) fun h5 tk5 S5 => ?_
  refine x_assign (vs' := LV sc wi num md clr tag ah be D f [du, tn, some (.ref Pl), some (.bytes ob1.toArray 0), va, pk, some (.bytes ob.toArray 0), wh, some (.int ((ah ++ tag).length : Nat) 0), some (.int j 0)]) N S5 (Ev.cast (Ev.add (Ev.lenB (bi_ _ _ _ S5 _) (Ev.loc N S5 (.tl (.tl (.tl (.tl (.tl (.tl .hd))))))) (by rw [List.size_toArray]; omega)) (Ev.lenB (bi_ _ _ _ S5 _) (Ev.loc N S5 (.tl (.tl (.tl (.tl (.tl .hd)))))) (by rw [List.size_toArray]; omega))) (by simp)) (.tl (.tl (.tl (.tl (.tl (.tl (.tl (.tl (.tl (.tl (.tl (.tl (.tl (.tl (.tl (.tl (.tl (.tl .hd)))))))))))))))))) fun h6 tk6 S6 => ?_
  refine x_assign (vs' := LV sc wi num md clr tag ah be D f [du, tn, some (.ref Pl), some (.bytes ob1.toArray 0), va, pk, some (.bytes ob.toArray 0), some (.bytes (ah ++ tag ++ ob1.take j).toArray 0), some (.int ((ah ++ tag).length : Nat) 0), some (.int j 0)]) N S6
    (Ev.cast (Ev.addB (Ev.addB (Ev.loc N S6 (.tl (.tl (.tl (.tl (.tl (.tl .hd))))))) (Ev.loc N S6 (.tl (.tl (.tl (.tl (.tl .hd)))))) (by simp only [List.size_toArray]; omega)) (Ev.sliceB (xs := ob1) (ys := ob1.take j) (a := none) (b := some (j : Int)) (Ev.loc N S6 (.tl (.tl (.tl (.tl (.tl (.tl (.tl (.tl (.tl (.tl (.tl (.tl (.tl .hd)))))))))))))) EvO.none (EvO.some (Ev.loc N S6 (.tl (.tl (.tl (.tl (.tl (.tl (.tl (.tl (.tl (.tl (.tl (.tl (.tl (.tl (.tl (.tl (.tl (.tl (.tl .hd))))))))))))))))))))) (by omega) ?_) (by simp only [Array.size_append, List.size_toArray, List.length_take]; omega)) (by simp)) (.tl (.tl (.tl (.tl (.tl (.tl (.tl (.tl (.tl (.tl (.tl (.tl (.tl (.tl (.tl (.tl (.tl .hd))))))))))))))))) fun h7 tk7 S7 => ?_
  · show (ob1.drop 0).take (clipAt ob1.length (j : Int) - 0) = ob1.take j
    rw [clip_nat (by omega), List.drop_zero, Nat.sub_zero]
  exact k ob1 ps1 j dl2 h7 tk7 eb hj Dr2 S7

theorem TBi0 {md : Nat} {key : Int} (hmd : md ≤ 2) : TBi prog w md D key [] [(D, dict0)] := by
  have h012 : md = 0 ∨ md = 1 ∨ md = 2 := by omega
  rcases h012 with rfl | rfl | rfl
  · exact ⟨dict0, [], rfl, dict0_of, .inl rfl⟩
  · exact .inl ⟨rfl, dict0, rfl, dict0_of⟩
  · exact .inl ⟨rfl, dict0, rfl, dict0_of⟩
/-- the cut read -/
theorem law_end2 {kd wi bi : Int} {num md : Nat} {clr : Bool} {tag ah be : List UInt8} {f sc : Addr} {du tn pc va pk ru : Option Value} {cl vt rest : List (Addr × Obj)} {ps ps1 : List (List UInt8 × Value)} {ob1 : List UInt8} {j : Nat} (C : Cx w loose mean mg mb A env [] A₀ base base L 20) (le : LE env L) (F : LF prog w kd wi bi num md clr tag ah be f cl) (eb : EB kd bi md tag ps ps1 ob1) (hj : j < ob1.length) (hcl : ∀ q ∈ cl, q ∈ rest) (hV : VTs vt)
    (S : St base L h lawNs (LV sc wi num md clr tag ah be D f [du, tn, pc, some (.bytes ob1.toArray 0), va, pk, ru, some (.bytes (ah ++ tag ++ ob1.take j).toArray 0), some (.int ((ah ++ tag).length : Nat) 0), some (.int j 0)]) (vt ++ rest))
    (k : ∀ D' vt' h' tk', VTs vt' → St base L h' lawNs (LV sc wi num md clr tag ah be D' f [du, tn, pc, some (.bytes ob1.toArray 0), va, pk, ru, some (.bytes (ah ++ tag ++ ob1.take j).toArray 0), some (.int ((ah ++ tag).length : Nat) 0), some (.int j 0)]) (vt' ++ rest) →
      WP prog w A (execs ((lawBody w).drop 19) env) QF E ⟨h', gs, dr, tk', os⟩) :
    WP prog w A (execs ((lawBody w).drop 17) env) QF E ⟨h, gs, dr, tk, os⟩ := by
  have N := le.N
  have htl := LF_tl F
  have hal := F.ah_
  have hmd := F.md2
  have hob := eb.ob1_
  have hlow : sysModules < base.objs.size := modules_low C.T.nolimit
  have bi_ := fun (h : Heap) (vs : List (Option Value)) (news : List (Addr × Obj)) (S : St base L h lawNs vs news) (p : Pos) => (Ev.bi (prog := prog) (p := p) N C S (by k_is) (.tail _ (.tail _ (.tail _ (.tail _ (.tail _ (.tail _ (.tail _ (.tail _ (.head _))))))))) PyProof.Rows.Boot.«len» (by decide) rfl)
  refine x_asg (w_dict0 hlow S fun D2 h2 lo2 S2 st2 => ?_)
  refine st_loc N S2 (.tl (.tl (.tl (.tl (.tl (.tl (.tl (.tl .hd)))))))) fun h3 tk3 S3 => ?_
  have hz : (ah ++ tag ++ ob1.take j).length ≤ 2000 := by simp only [List.length_append, List.length_take]; omega
  refine x_ifW (WB.wp (WB.or (w_tcmp (w_read (foot := []) (C.le (by decide)) N (.tail _ (.tail _ (.tail _ (.tail _ (.tail _ (.tail _ (.tail _ (.tail _ (.tail _ (.head _)))))))))) S3 (Ev.loc N S3 (.tl (.tl (.tl (.tl (.tl (.tl (.tl (.tl (.tl .hd)))))))))) (Ev.loc N S3 (.tl (.tl (.tl (.tl (.tl (.tl (.tl (.tl (.tl (.tl (.tl (.tl (.tl (.tl (.tl (.tl (.tl .hd)))))))))))))))))) (Ev.loc N S3 (.tl (.tl (.tl (.tl (.tl (.tl (.tl (.tl (.tl (.tl (.tl (.tl (.tl (.tl (.tl (.tl (.tl (.tl .hd)))))))))))))))))))
    (Ev.cast (Ev.lenB (bi_ _ _ _ S3 _) (Ev.loc N S3 (.tl (.tl (.tl (.tl (.tl (.tl (.tl (.tl (.tl (.tl (.tl (.tl (.tl (.tl (.tl (.tl (.tl .hd)))))))))))))))))) (by rw [List.size_toArray]; omega)) (show Value.int ((ah ++ tag ++ ob1.take j).toArray.size : Int) 0 = .int ((ah ++ tag ++ ob1.take j).length : Nat) 0 by rw [List.size_toArray]))
    F.fa (fun h4 tk4 s4 => Ev.use' ((Ev.loc N S3 (.tl (.tl (.tl (.tl (.tl (.tl (.tl (.tl .hd))))))))).grow s4) fun v5 h5 tk5 n5 s5 => ?_)) (bim rfl rfl _))))
  obtain rfl := nt_ref n5
  refine ⟨h5, tk5, D2, [(D2, dict0)] ++ vt, rest, _, _, rfl, rfl, (S3.grow s4).grow s5, hcl, dec_cut hmd F.fd (fun p hp => (eb.good p hp).1) (by have := eb.len; omega) eb.blk eb.one (TBi0 hmd) lo2 hV hj (by omega) (by omega) (by decide), fun _ _ _ _ hf => hf.elim, ?_⟩
  rintro t6 h6 tk6 nwE ⟨tl', vt', hTe, hV', rfl⟩ S6
  refine Ev.use' (Ev.neg Ev.int) fun v7 h7 tk7 n7 s7 => ?_
  obtain ⟨t7, rfl⟩ := nt_int n7
  have S7 := S6.grow s7
  refine .mk (by
    (with_reducible refine ne_int ?_)
    refine (WP.mk (wpAny_truthy_bool ?_))
    refine WB.or (w_tcmp (Ev.use' (Ev.loc N S7 (.tl (.tl (.tl (.tl (.tl (.tl (.tl (.tl .hd))))))))) fun v8 h8 tk8 n8 s8 => ?_) (bim rfl rfl _))
    obtain rfl := nt_ref n8
    have S8 := S7.grow s8
    refine w_ite ((Ts.gt (Ev.loc N S8 (.tl (.tl (.tl .hd)))) Ev.int).use _ (stays_refl _) gs dr tk8 os _ _ fun h9 tk9 s9 => ?_)
    have S9 := S8.grow s9
    by_cases h0 : md = 0
    · subst h0
      have hTe : tl' = [(D2, dict0)] := hTe
      subst hTe
      refine w_dict0 hlow S9 fun D10 h10 lo10 S10 st10 => ?_
      refine c_dcmp true C S10 (.tail _ (.head _)) (.head _) lo2 lo10 (dict0_of (knd := intKind prog w)) dict0_of (fun _ => .nil) (WP.mk (wpAny_truthy_bool ?_))
      exact WB.orN (x_nil (Nx.go (k D2 vt' h10 tk9 hV' (S10.sel [(D10, dict0), (D2, dict0)]))))
    · obtain ⟨od, lT, ln, rfl, hod⟩ := TBe_pos hTe (by omega)
      rw [if_pos (by simp; omega)]
      refine w_dict1 hlow S9 (fun h' s' => (Ev.loc N S9 (.tl (.tl .hd))).grow s') fun D10 h10 tk10 lo10 S10 st10 => w_list (ws := []) S10 EvL.nil (by decide) fun D11 ws11 h11 tk11 e11 S11 st11 => ?_
      obtain rfl := List.map_eq_nil_iff.mp e11
      refine ⟨h11, tk11, _, rfl, S11.sel (keep := (D10, dict0) :: ((D11, listOf (List.toArray []) 0) :: (([(D2, od), (lT, listOf (List.toArray []) ln)] ++ vt') ++ rest))) [], fun od2 h12 tk12 hd2 S12 => ?_⟩
      refine c_dcmp true C S12 (.tail _ (.tail _ (.head _))) (.head _) lo2 lo10 hod hd2 (fun _ => .hit val1 (lists_eqAt (xs := []) (ys := []) (PySem.IsL.isList (n := ln) (S12.get (.tail _ (.tail _ (.tail _ (.head _)))))) (PySem.IsL.isList (n := 0) (S12.get (.tail _ (.head _)))) (by simp) rfl (in1_lt C)) .nil) (WP.mk (wpAny_truthy_bool ?_))
      exact WB.orN (x_nil (Nx.go (k D2 vt' h12 tk12 hV' (S12.sel [(D10, od2), (D11, listOf (List.toArray []) 0), (D2, od), (lT, listOf (List.toArray []) ln)])))))

/-- the read with the end ahead of the octets' -/
theorem law_end3 {kd wi bi : Int} {num md : Nat} {clr : Bool} {tag ah be : List UInt8} {f sc : Addr} {du tn pc va pk ru : Option Value} {cl vt rest : List (Addr × Obj)} {ps ps1 : List (List UInt8 × Value)} {ob1 : List UInt8} {j : Nat} (C : Cx w loose mean mg mb A env [] A₀ base base L 20) (le : LE env L) (F : LF prog w kd wi bi num md clr tag ah be f cl) (eb : EB kd bi md tag ps ps1 ob1) (hj : j < ob1.length) (hcl : ∀ q ∈ cl, q ∈ rest) (hV : VTs vt)
    (S : St base L h lawNs (LV sc wi num md clr tag ah be D f [du, tn, pc, some (.bytes ob1.toArray 0), va, pk, ru, some (.bytes (ah ++ tag ++ ob1.take j).toArray 0), some (.int ((ah ++ tag).length : Nat) 0), some (.int j 0)]) (vt ++ rest))
    (k : ∀ vt' h' tk', VTs vt' → St base L h' lawNs (LV sc wi num md clr tag ah be D f [du, tn, pc, some (.bytes ob1.toArray 0), va, pk, ru, some (.bytes (ah ++ tag ++ ob1.take j).toArray 0), some (.int ((ah ++ tag).length : Nat) 0), some (.int j 0)]) (vt' ++ rest) →
      WP prog w A (execs ((lawBody w).drop 20) env) QF E ⟨h', gs, dr, tk', os⟩) :
    WP prog w A (execs ((lawBody w).drop 19) env) QF E ⟨h, gs, dr, tk, os⟩ := by
  have N := le.N
  have htl := LF_tl F
  have hal := F.ah_
  have hmd := F.md2
  have hob := eb.ob1_
  have hlow : sysModules < base.objs.size := modules_low C.T.nolimit
  have bi_ := fun (h : Heap) (vs : List (Option Value)) (news : List (Addr × Obj)) (S : St base L h lawNs vs news) (p : Pos) => (Ev.bi (prog := prog) (p := p) N C S (by k_is) (.tail _ (.tail _ (.tail _ (.tail _ (.tail _ (.tail _ (.tail _ (.tail _ (.head _))))))))) PyProof.Rows.Boot.«len» (by decide) rfl)
  have hl : (ah ++ tag ++ ob1.take j).length = (ah ++ tag).length + j := by rw [List.length_append (as := ah ++ tag), List.length_take]; omega
  have hl2 : (ah ++ tag).length ≤ 13 := by rw [List.length_append]; omega
  have esl : (ob1.drop ((some (j : Int)).elim 0 (clipAt ob1.length))).take ((none : Option Int).elim ob1.length (clipAt ob1.length) - (some (j : Int)).elim 0 (clipAt ob1.length)) = ob1.drop j := by
    show (ob1.drop (clipAt ob1.length (j : Int))).take (ob1.length - clipAt ob1.length (j : Int)) = _
    rw [clip_nat (by omega), List.take_of_length_le (by rw [List.length_drop]; omega)]
  refine x_ifW (w_tcmp (w_read (foot := []) (C.le (by decide)) N (.tail _ (.tail _ (.tail _ (.tail _ (.tail _ (.tail _ (.tail _ (.tail _ (.tail _ (.head _)))))))))) S (Ev.loc N S (.tl (.tl (.tl (.tl (.tl (.tl (.tl (.tl (.tl .hd))))))))))
    (Ev.cast (Ev.addB (Ev.loc N S (.tl (.tl (.tl (.tl (.tl (.tl (.tl (.tl (.tl (.tl (.tl (.tl (.tl (.tl (.tl (.tl (.tl .hd)))))))))))))))))) (Ev.sliceB (xs := ob1) (ys := ob1.drop j) (a := some (j : Int)) (b := none) (Ev.loc N S (.tl (.tl (.tl (.tl (.tl (.tl (.tl (.tl (.tl (.tl (.tl (.tl (.tl .hd)))))))))))))) (EvO.some (Ev.loc N S (.tl (.tl (.tl (.tl (.tl (.tl (.tl (.tl (.tl (.tl (.tl (.tl (.tl (.tl (.tl (.tl (.tl (.tl (.tl .hd))))))))))))))))))))) EvO.none (by omega) esl) (by simp only [List.size_toArray, List.length_drop]; omega))
      (show Value.bytes ((ah ++ tag ++ ob1.take j).toArray ++ (ob1.drop j).toArray) 0 = .bytes ((ah ++ tag) ++ ob1).toArray 0 by rw [List.append_toArray, List.append_assoc (ah ++ tag), List.take_append_drop]))
    (Ev.loc N S (.tl (.tl (.tl (.tl (.tl (.tl (.tl (.tl (.tl (.tl (.tl (.tl (.tl (.tl (.tl (.tl (.tl (.tl .hd)))))))))))))))))))
    (Ev.cast (Ev.lenB (bi_ _ _ _ S _) (Ev.loc N S (.tl (.tl (.tl (.tl (.tl (.tl (.tl (.tl (.tl (.tl (.tl (.tl (.tl (.tl (.tl (.tl (.tl .hd)))))))))))))))))) (by rw [List.size_toArray]; omega)) (show Value.int ((ah ++ tag ++ ob1.take j).toArray.size : Int) 0 = .int ((ah ++ tag).length + j : Nat) 0 by rw [List.size_toArray, hl]))
    F.fa (fun h4 tk4 s4 => w_dict0 hlow (S.grow s4) fun D5 h5 lo5 S5 st5 => ?_)) (bim rfl rfl _))
  refine ⟨h5, tk4, D5, [(D5, dict0)] ++ vt, rest, _, _, rfl, rfl, S5, hcl, dec_over hmd F.fd (fun p hp => (eb.good p hp).1) (by have := eb.len; omega) eb.blk eb.one (TBi0 hmd) lo5 hV (by rw [List.length_append (as := ah ++ tag)]; omega) (by omega) (by decide), fun _ _ _ _ hf => hf.elim, ?_⟩
  rintro t6 h6 tk6 nwE ⟨tl', vt', hV', rfl⟩ S6
  refine Ev.use' (Ev.neg Ev.int) fun v7 h7 tk7 n7 s7 => ?_
  obtain ⟨t7, rfl⟩ := nt_int n7
  refine .mk (by
    (with_reducible refine ne_int ?_)
    refine (WP.mk (wpAny_truthy_bool ?_))
    exact x_nil (Nx.go (k vt' h7 tk7 hV' ((S6.grow s7).sel tl'))))
end
end Mine
end
section
open PySem PySem.Spec PySem.Calls PySem.W PyProof.Rows
open LCg (NsObj ns_obj fr_but)
set_option maxRecDepth 100000
set_option maxHeartbeats 1000000
set_option linter.unusedVariables false
namespace Mine

section
variable {prog : Program} {w : World} {loose : List Str} {mean : ExcName → Option Value} {mg mb : Str → Option Value} {A A₀ : Around} {env cenv : Env} {outer : List Env} {base h₀ h : Heap} {L D : Addr} {lv : Nat} {ns gl : List Str} {vs vs1 vs2 : List (Option Value)} {news nw foot rest dl tl Kp cl : List (Addr × Obj)} {x y n1 n2 : Str} {v u : Value} {p p1 p2 p3 p4 p' np cpos : Pos} {kk : Nat}
variable {gs : Array GenState} {dr : Drawn} {tk : Nat} {os : OsState} {Q E : Value → Shared → Prop} {QF : Flow → Shared → Prop} {e e1 e2 e3 e4 e5 i o a b : Expr} {pos : Pos} {elts : List Expr} {rst : List Stmt} {s : Shared} {oo : Obj × Obj × Obj}

/-- the whole read -/
theorem law_end4 {kd wi bi : Int} {num md : Nat} {clr : Bool} {tag ah be : List UInt8} {f sc : Addr} {du tn pc va pk ru wh : Option Value} {cl vt rest : List (Addr × Obj)} {ps ps1 : List (List UInt8 × Value)} {ob1 : List UInt8} (C : Cx w loose mean mg mb A env [] A₀ base base L 20) (le : LE env L) (F : LF prog w kd wi bi num md clr tag ah be f cl) (eb : EB kd bi md tag ps ps1 ob1) (hcl : ∀ q ∈ cl, q ∈ rest) (hV : VTs vt)
    (S : St base L h lawNs (LV sc wi num md clr tag ah be D f [du, tn, pc, some (.bytes ob1.toArray 0), va, pk, ru, wh, some (.int ((ah ++ tag).length : Nat) 0), cu]) (vt ++ rest))
    (k : ∀ D' tl' vt' wh' h' tk', TBo prog w md clr D' num [] ps1 tl' → (D' == sysModules) = false → VTs vt' → St base L h' lawNs (LV sc wi num md clr tag ah be D' f [du, tn, pc, some (.bytes ob1.toArray 0), va, pk, ru, wh', some (.int ((ah ++ tag).length : Nat) 0), cu]) ((tl' ++ vt') ++ rest) →
      WP prog w A (execs ((lawBody w).drop 23) env) QF E ⟨h', gs, dr, tk', os⟩) :
    WP prog w A (execs ((lawBody w).drop 20) env) QF E ⟨h, gs, dr, tk, os⟩ := by
  have N := le.N
  have htl := LF_tl F
  have hal := F.ah_
  have hmd := F.md2
  have hlow : sysModules < base.objs.size := modules_low C.T.nolimit
  have bi_ := fun (h : Heap) (vs : List (Option Value)) (news : List (Addr × Obj)) (S : St base L h lawNs vs news) (p : Pos) => (Ev.bi (prog := prog) (p := p) N C S (by k_is) (.tail _ (.tail _ (.tail _ (.tail _ (.tail _ (.tail _ (.tail _ (.tail _ (.head _))))))))) PyProof.Rows.Boot.«len» (by decide) rfl)
  have hob := eb.ob1_
  have hl2 : (ah ++ tag).length ≤ 13 := by rw [List.length_append]; omega
  have hl3 : (ah ++ tag ++ ob1).length = (ah ++ tag).length + ob1.length := List.length_append
  refine x_assign (vs' := LV sc wi num md clr tag ah be D f [du, tn, pc, some (.bytes ob1.toArray 0), va, pk, ru, some (.bytes (ah ++ tag ++ ob1).toArray 0), some (.int ((ah ++ tag).length : Nat) 0), cu]) N S (Ev.cast (Ev.addB (Ev.addB (Ev.loc N S (.tl (.tl (.tl (.tl (.tl (.tl .hd))))))) (Ev.loc N S (.tl (.tl (.tl (.tl (.tl .hd)))))) (by simp only [List.size_toArray]; omega)) (Ev.loc N S (.tl (.tl (.tl (.tl (.tl (.tl (.tl (.tl (.tl (.tl (.tl (.tl (.tl .hd)))))))))))))) (by simp only [Array.size_append, List.size_toArray]; omega)) (by simp)) (.tl (.tl (.tl (.tl (.tl (.tl (.tl (.tl (.tl (.tl (.tl (.tl (.tl (.tl (.tl (.tl (.tl .hd))))))))))))))))) fun h1 tk1 S1 => ?_
  refine x_asg (w_dict0 hlow S1 fun D2 h2 lo2 S2 st2 => ?_)
  refine st_loc N S2 (.tl (.tl (.tl (.tl (.tl (.tl (.tl (.tl .hd)))))))) fun h3 tk3 S3 => ?_
  refine x_ifW (w_tcmp (w_read (foot := []) (C.le (by decide)) N (.tail _ (.tail _ (.tail _ (.tail _ (.tail _ (.tail _ (.tail _ (.tail _ (.tail _ (.head _)))))))))) S3 (Ev.loc N S3 (.tl (.tl (.tl (.tl (.tl (.tl (.tl (.tl (.tl .hd))))))))))
    (Ev.cast (Ev.addB (Ev.addB (Ev.loc N S3 (.tl (.tl (.tl (.tl (.tl (.tl (.tl (.tl (.tl (.tl (.tl (.tl (.tl (.tl (.tl (.tl (.tl .hd)))))))))))))))))) (Ev.loc N S3 (.tl (.tl (.tl (.tl (.tl .hd)))))) (by rw [List.size_toArray, List.size_toArray]; omega)) (Ev.loc N S3 (.tl (.tl (.tl (.tl (.tl (.tl (.tl (.tl (.tl (.tl (.tl (.tl (.tl .hd)))))))))))))) (by simp only [Array.size_append, List.size_toArray]; omega)) (show Value.bytes ((ah ++ tag ++ ob1).toArray ++ tag.toArray ++ ob1.toArray) 0 = .bytes ((ah ++ tag) ++ (ob1 ++ (tag ++ ob1))).toArray 0 by simp))
    (Ev.loc N S3 (.tl (.tl (.tl (.tl (.tl (.tl (.tl (.tl (.tl (.tl (.tl (.tl (.tl (.tl (.tl (.tl (.tl (.tl .hd)))))))))))))))))))
    (Ev.cast (Ev.lenB (bi_ _ _ _ S3 _) (Ev.loc N S3 (.tl (.tl (.tl (.tl (.tl (.tl (.tl (.tl (.tl (.tl (.tl (.tl (.tl (.tl (.tl (.tl (.tl .hd)))))))))))))))))) (by rw [List.size_toArray]; omega)) (show Value.int ((ah ++ tag ++ ob1).toArray.size : Int) 0 = .int ((ah ++ tag).length + ob1.length : Nat) 0 by rw [List.size_toArray, hl3]))
    F.fa (fun h4 tk4 s4 => Ev.use' ((Ev.loc N S3 (.tl (.tl (.tl (.tl (.tl (.tl (.tl (.tl .hd))))))))).grow s4) fun v5 h5 tk5 n5 s5 => ?_)) (bim rfl rfl _))
  obtain rfl := nt_ref n5
  refine ⟨h5, tk5, D2, [(D2, dict0)] ++ vt, rest, _, _, rfl, rfl, (S3.grow s4).grow s5, hcl, dec_ok hmd F.fd (fun p hp => (eb.good p hp).1) (by have := eb.len; omega) eb.blk (TBi0 hmd) lo2 hV (by simp only [List.length_append] at hl2 ⊢; omega) (by omega) (Nat.le_refl _) (fun _ => .inl (Nat.le_refl _)) (by decide), ?_, fun _ _ _ _ hf => hf.elim⟩
  rintro v6 h6 tk6 nw ⟨t6, tl', vt', rfl, hTo, hV', rfl⟩ S6
  refine Ev.use' (Ev.lenB (bi_ _ _ _ S6 _) (Ev.loc N S6 (.tl (.tl (.tl (.tl (.tl (.tl (.tl (.tl (.tl (.tl (.tl (.tl (.tl (.tl (.tl (.tl (.tl .hd)))))))))))))))))) (by rw [List.size_toArray]; omega)) fun v7 h7 tk7 n7 s7 => ?_
  obtain ⟨t7, rfl⟩ := nt_int n7
  have e : ((((ah ++ tag).length + ob1.length : Nat) : Int) != ((ah ++ tag ++ ob1).toArray.size : Int)) = false := by rw [List.size_toArray, hl3]; exact bne_self_eq_false _
  refine .mk (by
    (with_reducible refine ne_int ?_)
    rw [e]
    refine (WP.mk (wpAny_truthy_bool ?_))
    exact x_nil (Nx.go (k D2 tl' vt' _ h7 tk7 hTo lo2 hV' (S6.grow s7))))

/-- the values of the whole read -/
theorem law_end5 {kd wi bi : Int} {num md : Nat} {clr : Bool} {tag ah be : List UInt8} {f sc : Addr} {du tn va pk ru wh fi : Option Value} {cl tl vt rest X : List (Addr × Obj)} {Pl : Addr} {ps ps1 : List (List UInt8 × Value)} {ob1 ob : List UInt8} (C : Cx w loose mean mg mb A env [] A₀ base base L 20) (le : LE env L) (F : LF prog w kd wi bi num md clr tag ah be f cl) (eb : EB kd bi md tag ps ps1 ob1) (lp : LP kd bi md tag Pl ps ob X) (hX : ∀ q ∈ X, q ∈ rest) (hT : TBo prog w md clr D num [] ps1 tl) (lo : (D == sysModules) = false)
    (S : St base L h lawNs (LV sc wi num md clr tag ah be D f [du, tn, some (.ref Pl), oc, va, pk, ru, wh, fi, cu]) ((tl ++ vt) ++ rest))
    (k : ∀ h' tk', St base L h' lawNs (LV sc wi num md clr tag ah be D f [du, tn, some (.ref Pl), oc, va, pk, ru, wh, fi, cu]) (vt ++ rest) → WP prog w A (execs ((lawBody w).drop 24) env) QF E ⟨h', gs, dr, tk', os⟩) :
    WP prog w A (execs ((lawBody w).drop 23) env) QF E ⟨h, gs, dr, tk, os⟩ := by
  have N := le.N
  have hmd := F.md2
  have hlow : sysModules < base.objs.size := modules_low C.T.nolimit
  refine x_ifW (WB.wp (WB.and ((Ts.gt (Ev.loc N S (.tl (.tl (.tl .hd)))) Ev.int).use _ (stays_refl _) gs dr tk os _ _ fun h2 tk2 s2 => ?_)))
  have S2 := S.grow s2
  by_cases h0 : md = 0
  · subst h0
    exact x_nil (Nx.go (k h2 tk2 (S2.sel tl)))
  · obtain ⟨vals, hvals, od, lT, ln, rfl, hod⟩ := TBo_pos hT (by omega)
    rw [if_pos (by simp; omega)]
    have hvd : ∀ v ∈ vals, VD v := fun v hm => by
      obtain ⟨i, hi, rfl⟩ := List.mem_iff_getElem.mp hm
      have hl2 : vals.length = ps1.length := by have := congrArg List.length hvals; simpa using this
      have h3 : i < ps1.length := by omega
      have := congrArg (fun l => l[i]?) hvals
      simp only [List.getElem?_map, List.getElem?_eq_getElem hi, List.getElem?_eq_getElem h3, Option.map_some, Option.some.injEq] at this
      exact ((eb.good _ (List.getElem_mem h3)).1.vd).tok this
    obtain ⟨pl, k0, hmP, hps⟩ := lp.at_
    refine WB.and (w_tcmp (Ev.use' (Ev.loc N S2 (.tl (.tl (.tl (.tl (.tl (.tl (.tl (.tl .hd))))))))) fun v8 h8 tk8 n8 s8 => ?_) (bim rfl rfl _))
    obtain rfl := nt_ref n8
    have S8 := S2.grow s8
    refine w_dict1 hlow S8 (fun h' s' => (Ev.loc N S8 (.tl (.tl .hd))).grow s') fun D10 h10 tk10 lo10 S10 st10 => ?_
    refine WP.mono (Q := fun v s => ∃ (D5 : Addr) (ys : List Value) (yn : Nat) (h : Heap) (tk : Nat), v = .ref D5 ∧ s = ⟨h, gs, dr, tk, os⟩ ∧ ys.map nt = ps1.map (fun p => nt p.2) ∧ St base L h lawNs (LV sc wi num md clr tag ah be D f [du, tn, some (.ref Pl), oc, va, pk, ru, wh, fi, cu]) ((D10, dict0) :: ((D5, listOf ys.toArray yn) :: (([(D, od), (lT, listOf (List.toArray ([] ++ vals)) ln)] ++ vt) ++ rest)))) ?_ fun v s hv => ?_
    · refine w_pcol (h₀ := base) (L := L) (ns := lawNs) (vs := LV sc wi num md clr tag ah be D f [du, tn, some (.ref Pl), oc, va, pk, ru, wh, fi, cu]) (gs := gs) (dr := dr) (os := os) (clo := []) (fun a b => b) (fun m a b h1 h2 => h2) nt_snd C.hand (closure_of (by kernel_rfl)) (by decide +kernel) rfl (by decide +kernel) (by decide +kernel) (by decide +kernel) (by decide +kernel) (by decide +kernel) (by decide +kernel) ?_
      refine w_ite ((Ts.eq (Ev.loc N S10 (.tl (.tl (.tl .hd)))) Ev.int).use _ (stays_refl _) gs dr tk10 os _ _ fun h11 tk11 s11 => ?_)
      have S11 := S10.grow s11
      split
      · rename_i hc
        have hm2 : md = 2 := by have := eq_of_beq hc; omega
        refine Ev.use' (Ev.loc N S11 (.tl (.tl (.tl (.tl (.tl (.tl (.tl (.tl (.tl (.tl (.tl (.tl .hd))))))))))))) fun v12 h12 tk12 n12 s12 => ?_
        obtain rfl := nt_ref n12
        refine ⟨Pl, pl, k0, h12, tk12, _, ps, rfl, rfl, S11.grow s12, .tail _ (List.mem_append_right _ (hX _ hmP)), hps.mono fun q hq => .tail _ (List.mem_append_right _ (hX _ hq)), by have := lp.len; omega, fun D5 ys yn h13 tk13 hys S13 => ⟨D5, ys, yn, h13, tk13, rfl, rfl, ?_, S13.sel []⟩⟩
        rw [hys, eb.sel, if_pos hm2]
      · rename_i hc
        have hm2 : md ≠ 2 := fun e => hc (by rw [e]; rfl)
        refine w_sliceL (h₀ := base) (L := L) (ns := lawNs) (vs := LV sc wi num md clr tag ah be D f [du, tn, some (.ref Pl), oc, va, pk, ru, wh, fi, cu]) (gs := gs) (dr := dr) (os := os) (a := none) (b := some 1) (Ev.use' (Ev.loc N S11 (.tl (.tl (.tl (.tl (.tl (.tl (.tl (.tl (.tl (.tl (.tl (.tl .hd))))))))))))) fun v12 h12 tk12 n12 s12 => ?_)
        obtain rfl := nt_ref n12
        have S12 := S11.grow s12
        refine ⟨Pl, pl.toArray, h12, tk12, _, rfl, rfl, S12, PySem.IsL.isList (n := k0) (S12.get (.tail _ (List.mem_append_right _ (hX _ hmP)))), by rw [List.size_toArray, hps.len]; have := lp.len; omega, EvO.none, EvO.some Ev.int, fun D13 h13 tk13 S13 st13 => ?_⟩
        rw [pick_upto _ (by decide)] at S13
        refine ⟨D13, pl.take 1, 0, h13, tk13, _, ps.take 1, rfl, rfl, S13, .head _, (hps.take 1).mono fun q hq => .tail _ (.tail _ (List.mem_append_right _ (hX _ hq))), by rw [List.length_take]; omega, fun D5 ys yn h14 tk14 hys S14 => ⟨D5, ys, yn, h14, tk14, rfl, rfl, ?_, S14.sel [(D13, listOf (List.toArray (pl.take 1)) 0)]⟩⟩
        rw [hys, eb.sel, if_neg hm2]
    obtain ⟨D5, ys, yn, h11, tk11, rfl, rfl, hys, S11⟩ := hv
    refine ⟨h11, tk11, _, rfl, S11, fun od2 h12 tk12 hd2 S12 => ?_⟩
    refine c_dcmp true C S12 (.tail _ (.tail _ (.head _))) (.head _) lo lo10 hod hd2 (fun _ => .hit val1 (lists_eqAt (xs := vals) (ys := ys) (PySem.IsL.isList (n := ln) (S12.get (.tail _ (.tail _ (.tail _ (.head _)))))) (PySem.IsL.isList (n := yn) (S12.get (.tail _ (.head _)))) hvd (hys.trans hvals.symm) (in1_lt C)) .nil) (WP.mk (wpAny_truthy_bool ?_))
    exact x_nil (Nx.go (k h12 tk12 (S12.sel [(D10, od2), (D5, listOf ys.toArray yn), (D, od), (lT, listOf (List.toArray ([] ++ vals)) ln)])))
end
end Mine
end
section
open PySem PySem.Spec PySem.Calls PySem.W PyProof.Rows
open LCg (NsObj ns_obj fr_but)
set_option maxRecDepth 100000
set_option maxHeartbeats 1000000
set_option linter.unusedVariables false
namespace Mine

section
variable {prog : Program} {w : World} {loose : List Str} {mean : ExcName → Option Value} {mg mb : Str → Option Value} {A A₀ : Around} {env cenv : Env} {outer : List Env} {base h₀ h : Heap} {L D : Addr} {lv : Nat} {ns gl : List Str} {vs vs1 vs2 : List (Option Value)} {news nw foot rest dl tl Kp cl : List (Addr × Obj)} {x y n1 n2 : Str} {v u : Value} {p p1 p2 p3 p4 p' np cpos : Pos} {kk : Nat}
variable {gs : Array GenState} {dr : Drawn} {tk : Nat} {os : OsState} {Q E : Value → Shared → Prop} {QF : Flow → Shared → Prop} {e e1 e2 e3 e4 e5 i o a b : Expr} {pos : Pos} {elts : List Expr} {rst : List Stmt} {s : Shared} {oo : Obj × Obj × Obj}

/-- the last item of a list -/
theorem w_itemN {k1 : Nat} (q : WP prog w A (eval o env) (fun ov s₁ => ∃ (D : Addr) (its : Array Value) (n : Nat) (h : Heap) (tk : Nat) (v : Value), ov = .ref D ∧ s₁ = ⟨h, gs, dr, tk, os⟩ ∧ h.get? D = some (listOf its n) ∧ 0 < its.size ∧ its[its.size - 1]? = some v ∧ ∀ h' tk', h.StaysIn h' → Q v ⟨h', gs, dr, tk', os⟩) E s) :
    WP prog w A (eval (.Subscript o (.UnaryOp .USub (.Constant (.int 1) k1 p1) p2) p) env) Q E s := .mk (by
  (with_reducible refine Subscript_ (wpAny_mono q.out (fun ov s₁ h₁ => ?_) fun _ _ x => x))
  obtain ⟨D, its, n, h, tk, v, rfl, rfl, eD, h0, hx, k⟩ := h₁
  refine ((Ev.neg Ev.int).use h (stays_refl h) gs dr tk os _ _ fun iv h2 tk2 e2 s2 => ?_).out
  obtain ⟨t2, rfl⟩ := nt_int e2
  have hL := PySem.IsL.isList (n := n) (s2 _ _ eD)
  refine tail_any hL.typeIs slot_list_getitem.lookup (wpAny_getItem_list_neg hL (by decide) (by omega) (by decide) ?_ (k h2 _ s2)) (by with_unfolding_all rfl)
  have e : ((-1 : Int) + (its.size : Int)).toNat = its.size - 1 := by omega
  rw [e]; exact hx)

/-- a call of _law_read, its octets worked out -/
theorem w_readW (C : Cx w loose mean mg mb A env [] A₀ base base L (8 + 1)) (N : FnEnv env L ns gl) (hg : Str.ofString "_law_read" ∈ gl) (S : St base L h ns vs news) {d : Addr}
    (q1 : Ev prog w A env h e1 (.ref d)) (fa : ∀ h : Heap, (∀ q ∈ cl, h.get? q.1 = some q.2) → FnAt d h)
    (q : ∀ h2 tk2, h.StaysIn h2 → WP prog w A (eval e2 env) (fun v s => ∃ (buf : Array UInt8) (tb : Tok) (first fin : Int) (h3 : Heap) (tk3 : Nat), v = .bytes buf tb ∧ s = ⟨h3, gs, dr, tk3, os⟩ ∧ Ev prog w A env h3 e3 (.int first 0) ∧ Ev prog w A env h3 e4 (.int fin 0) ∧
      ∀ h' tk', h3.StaysIn h' → WP prog w A (eval e5 env) (fun v s => ∃ (h2 : Heap) (tk2 : Nat) (D : Addr) (foot rest : List (Addr × Obj)) (Rel : Value → List (Addr × Obj) → Prop) (RelE : List (Addr × Obj) → Prop), v = .ref D ∧ s = ⟨h2, gs, dr, tk2, os⟩ ∧ St base L h2 ns vs (foot ++ rest) ∧ (∀ q ∈ cl, q ∈ rest) ∧ DEC prog w d buf first fin D foot cl Rel RelE ∧
      (∀ v h' tk' nw, Rel v nw → St base L h' ns vs (nw ++ rest) → Q v ⟨h', gs, dr, tk', os⟩) ∧ (∀ t h' tk' nwE, RelE nwE → St base L h' ns vs (nwE ++ rest) → Q (.int (-1) t) ⟨h', gs, dr, tk', os⟩)) E ⟨h', gs, dr, tk', os⟩) E ⟨h2, gs, dr, tk2, os⟩)
    (he1 : starEach [e1, e2, e3, e4, e5] env = (false, eval e1 env) :: starEach [e2, e3, e4, e5] env := by rfl) (he2 : starEach [e2, e3, e4, e5] env = (false, eval e2 env) :: starEach [e3, e4, e5] env := by rfl)
    (he3 : starEach [e3, e4, e5] env = (false, eval e3 env) :: starEach [e4, e5] env := by rfl) (he4 : starEach [e4, e5] env = (false, eval e4 env) :: starEach [e5] env := by rfl) (he5 : starEach [e5] env = (false, eval e5 env) :: starEach [] env := by rfl)
    (hc : eval (.Call (.Name (Str.ofString "_law_read") p) [e1, e2, e3, e4, e5] [] pos) env = (do callWith pos (← eval (.Name (Str.ofString "_law_read") p) env) [] (backTo pos (starEach [e1, e2, e3, e4, e5] env)) (backToKw pos (keywordEach [] env))) := by rfl) :
    WP prog w A (eval (.Call (.Name (Str.ofString "_law_read") p) [e1, e2, e3, e4, e5] [] pos) env) Q E ⟨h, gs, dr, tk, os⟩ := by
  refine c_fn (a := 397) (Ev.glob N C S (by k_is) hg rfl) (fun h2 tk2 s2 => ?_) (by rw [he1, he2, he3, he4, he5]; rfl) he1 hc
  refine sp_p (q1.grow s2) (fun v3 h3 tk3 n3 s3 => ?_) he1
  obtain rfl := nt_ref n3
  refine sp_i (WP.mono (q h3 tk3 (stays_trans s2 s3)) fun v4 s4 h4 => ?_) he2
  obtain ⟨buf, tb, first, fin, h5, tk5, rfl, rfl, q3, q4, q5⟩ := h4
  refine (sp_p q3 (fun v6 h6 tk6 n6 s6 => ?_) he3).out
  refine sp_p (q4.grow s6) (fun v7 h7 tk7 n7 s7 => ?_) he4
  obtain ⟨t6, rfl⟩ := nt_int n6
  obtain ⟨t7, rfl⟩ := nt_int n7
  refine sp_i (WP.mono (q5 h7 tk7 (stays_trans s6 s7)) fun v8 s8 h8 => ?_) he5
  obtain ⟨h9, tk9, D, foot, rest, Rel, RelE, rfl, rfl, S9, hcl, dec, k, kC⟩ := h8
  exact (sp_n ⟨fnAt_K C S9 (by k_is), (read_ok dec fa C S9 hcl k kC).out⟩).out

/-- the end of most -/
theorem law_end6 {kd wi bi : Int} {num md : Nat} {clr : Bool} {tag ah be : List UInt8} {f sc : Addr} {du tn va pk ru wh fi : Option Value} {cl X : List (Addr × Obj)} {Pl : Addr} {ps : List (List UInt8 × Value)} {ob : List UInt8} (C : Cx w loose mean mg mb A env [] A₀ base base L 20) (le : LE env L) (F : LF prog w kd wi bi num md clr tag ah be f cl) (lp : LP kd bi md tag Pl ps ob X) (hX : ∀ q ∈ X, q ∈ news)
    (S : St base L h lawNs (LV sc wi num md clr tag ah be D f [du, tn, some (.ref Pl), oc, va, pk, ru, wh, fi, cu]) news)
    (kT : ∀ h' tk', St base L h' lawNs (LV sc wi num md clr tag ah be D f [du, tn, some (.ref Pl), oc, va, pk, ru, wh, fi, cu]) news → QF (.ret (.bool true)) ⟨h', gs, dr, tk', os⟩)
    (k : ∀ init last h' tk', md = 2 → ps = init ++ [last] → 2 ≤ last.1.length → St base L h' lawNs (LV sc wi num md clr tag ah be D f [du, tn, some (.ref Pl), oc, va, pk, ru, wh, fi, cu]) news → WP prog w A (execs ((lawBody w).drop 25) env) QF E ⟨h', gs, dr, tk', os⟩) :
    WP prog w A (execs ((lawBody w).drop 24) env) QF E ⟨h, gs, dr, tk, os⟩ := by
  have N := le.N
  have hmd := F.md2
  refine x_ifW (WB.wp (WB.or ((Ts.ne (Ev.loc N S (.tl (.tl (.tl .hd)))) Ev.int).use _ (stays_refl _) gs dr tk os _ _ fun h2 tk2 s2 => ?_)))
  have S2 := S.grow s2
  by_cases hm2 : md = 2
  · subst hm2
    obtain ⟨pl, k0, hmP, hps⟩ := lp.at_
    refine WB.or (w_tcmp (Ev.use' (Ev.loc N S2 (.tl (.tl (.tl (.tl (.tl (.tl (.tl (.tl (.tl (.tl (.tl (.tl .hd))))))))))))) fun v3 h3 tk3 n3 s3 => ?_) (bim rfl rfl _))
    obtain rfl := nt_ref n3
    refine w_list (ws := []) (S2.grow s3) EvL.nil (by decide) fun D4 ws4 h4 tk4 e4 S4 st4 => ?_
    obtain rfl := List.map_eq_nil_iff.mp e4
    have hl1 := PySem.IsL.isList (n := k0) (S4.get (.tail _ (hX _ hmP)))
    have hl2 := PySem.IsL.isList (n := 0) (S4.get (.head _))
    rcases List.eq_nil_or_concat ps with e | ⟨init, last, e⟩
    · subst e
      have hpl : pl = [] := List.length_eq_zero_iff.mp hps.len
      subst hpl
      refine .mk (SeqAt.eq_listAt (s := ⟨h4, gs, dr, tk4, os⟩) (e := fun _ => true) hl1 hl2 rfl (units_lt C) (fun j h1 _ => absurd h1 (Nat.not_lt_zero _)) ?_)
      refine (WP.mk (wpAny_truthy_bool ?_))
      exact x_ret Ev.cbool fun v h tk n s => by obtain rfl := nt_bool n; exact kT _ _ (S4.drop.grow s)
    · rw [List.concat_eq_append] at e
      subst e
      have hpl := hps.len
      rw [List.length_append, List.length_singleton] at hpl
      refine .mk (SeqAt.eq_list_lengthsAt (s := ⟨h4, gs, dr, tk4, os⟩) hl1 hl2 (by simp; intro e; rw [e] at hpl; simp at hpl) (units_lt C) ?_)
      refine (WP.mk (wpAny_truthy_bool ?_))
      have S4 := S4.drop
      obtain ⟨pT, hpT, T, tT, hT1, hmT⟩ := hps.get (i := init.length) (List.getElem?_eq_getElem (by omega))
      rw [List.getElem?_concat_length] at hpT
      obtain rfl := Option.some.inj hpT
      have hg := lp.good last (by simp)
      refine WB.or (w_tcmp (c_bi (Ev.bi N C S4 (by k_is) (.tail _ (.tail _ (.tail _ (.tail _ (.tail _ (.tail _ (.tail _ (.tail _ (.head _))))))))) PyProof.Rows.Boot.«len» (by decide) rfl) fun h5 tk5 s5 => sp_i (w_itemT (gs := gs) (dr := dr) (os := os) (w_itemN (gs := gs) (dr := dr) (os := os) (Ev.use' ((Ev.loc N S4 (.tl (.tl (.tl (.tl (.tl (.tl (.tl (.tl (.tl (.tl (.tl (.tl .hd))))))))))))).grow s5) fun v6 h6 tk6 n6 s6 => ?_)) (by decide) (by decide))) (bim rfl rfl _))
      obtain rfl := nt_ref n6
      have S6 := (S4.grow s5).grow s6
      refine ⟨Pl, pl.toArray, k0, h6, tk6, .ref T, rfl, rfl, S6.get (hX _ hmP), by rw [List.size_toArray]; omega, by rw [List.size_toArray, List.getElem?_toArray, hpl, Nat.add_sub_cancel, List.getElem?_eq_getElem (by omega), hT1], fun h7 tk7 s7 => ?_⟩
      have S7 := S6.grow s7
      refine ⟨T, _, .bytes last.1.toArray tT, h7, tk7, 0, rfl, rfl, S7.get (hX _ hmT), (by decide : seqIndex? 0 2 = some 0), rfl, fun tk8 => ?_⟩
      refine (sp_n ?_).out
      refine len_bytes (by rw [List.size_toArray]; omega) ?_
      refine Ev.use' Ev.int fun v9 h9 tk9 n9 s9 => ?_
      obtain ⟨t9, rfl⟩ := nt_int n9
      have S9 := S7.grow s9
      refine .mk (by
        (with_reducible refine eq_int ?_)
        refine (WP.mk (wpAny_truthy_bool ?_))
        by_cases h1 : last.1.length = 1
        · have e1 : ((last.1.toArray.size : Int) == 1) = true := by rw [List.size_toArray, h1]; rfl
          rw [e1]
          exact x_ret Ev.cbool fun v h tk n s => by obtain rfl := nt_bool n; exact kT _ _ (S9.grow s)
        · have e1 : ((last.1.toArray.size : Int) == 1) = false := by rw [List.size_toArray]; simp; omega
          rw [e1]
          exact WB.orN (x_nil (Nx.go (k init last _ _ rfl rfl (by have := hg.1.pos; omega) S9))))
  · have e1 : ((md : Int) != 2) = true := by simp [bne]; omega
    rw [e1]
    exact x_ret Ev.cbool fun v h tk n s => by obtain rfl := nt_bool n; exact kT _ _ (S2.grow s)
end
end Mine
end
section
open PySem PySem.Spec PySem.Calls PySem.W PyProof.Rows
open LCg (NsObj ns_obj fr_but)
set_option maxRecDepth 100000
set_option maxHeartbeats 1000000
set_option linter.unusedVariables false
namespace Mine

section
variable {prog : Program} {w : World} {loose : List Str} {mean : ExcName → Option Value} {mg mb : Str → Option Value} {A A₀ : Around} {env cenv : Env} {outer : List Env} {base h₀ h : Heap} {L D : Addr} {lv : Nat} {ns gl : List Str} {vs vs1 vs2 : List (Option Value)} {news nw foot rest dl tl Kp cl : List (Addr × Obj)} {x y n1 n2 : Str} {v u : Value} {p p1 p2 p3 p4 p' np cpos : Pos} {kk : Nat}
variable {gs : Array GenState} {dr : Drawn} {tk : Nat} {os : OsState} {Q E : Value → Shared → Prop} {QF : Flow → Shared → Prop} {e e1 e2 e3 e4 e5 i o a b : Expr} {pos : Pos} {elts : List Expr} {rst : List Stmt} {s : Shared} {oo : Obj × Obj × Obj}

/-- a packed run whose length is told too small -/
theorem law_end7 {kd wi bi : Int} {num : Nat} {clr : Bool} {tag ah be : List UInt8} {f sc : Addr} {du tn va pk ru wh fi : Option Value} {cl vt rest X : List (Addr × Obj)} {Pl : Addr} {init : List (List UInt8 × Value)} {last : List UInt8 × Value} {ob : List UInt8} (C : Cx w loose mean mg mb A env [] A₀ base base L 20) (le : LE env L) (F : LF prog w kd wi bi num 2 clr tag ah be f cl) (lp : LP kd bi 2 tag Pl (init ++ [last]) ob X) (hl : 2 ≤ last.1.length) (hcl : ∀ q ∈ cl, q ∈ rest) (hX : ∀ q ∈ X, q ∈ rest) (hV : VTs vt)
    (S : St base L h lawNs (LV sc wi num 2 clr tag ah be D f [du, tn, some (.ref Pl), oc, va, pk, ru, wh, fi, cu]) (vt ++ rest))
    (k : ∀ vs' vt' h' tk', VTs vt' → St base L h' lawNs vs' (vt' ++ rest) → QF (.ret (.bool true)) ⟨h', gs, dr, tk', os⟩) :
    WP prog w A (execs ((lawBody w).drop 25) env) QF E ⟨h, gs, dr, tk, os⟩ := by
  have N := le.N
  have htl := LF_tl F
  have hal := F.ah_
  have hmd := F.md2
  have hlow : sysModules < base.objs.size := modules_low C.T.nolimit
  have bi_ := fun (h : Heap) (vs : List (Option Value)) (news : List (Addr × Obj)) (S : St base L h lawNs vs news) (p : Pos) => (Ev.bi (prog := prog) (p := p) N C S (by k_is) (.tail _ (.tail _ (.tail _ (.tail _ (.tail _ (.tail _ (.tail _ (.tail _ (.head _))))))))) PyProof.Rows.Boot.«len» (by decide) rfl)
  obtain ⟨pl, k0, hmP, hps⟩ := lp.at_
  have hlen := lp.len
  have hsum := sum16 fun p hp => (lp.good p hp).2
  refine x_asg (w_join (sep := []) Ev.cbytes fun h3 tk3 s3 => ?_)
  have S3 := S.grow s3
  refine w_pcol (h₀ := base) (L := L) (ns := lawNs) (vs := LV sc wi num 2 clr tag ah be D f [du, tn, some (.ref Pl), oc, va, pk, ru, wh, fi, cu]) (gs := gs) (dr := dr) (os := os) (clo := []) (fun a b => a) (fun m a b h1 h2 => h1) nt_fst C.hand (closure_of (by kernel_rfl)) (by decide +kernel) rfl (by decide +kernel) (by decide +kernel) (by decide +kernel) (by decide +kernel) (by decide +kernel) (by decide +kernel) (Ev.use' (Ev.loc N S3 (.tl (.tl (.tl (.tl (.tl (.tl (.tl (.tl (.tl (.tl (.tl (.tl .hd))))))))))))) fun v4 h4 tk4 n4 s4 => ?_)
  obtain rfl := nt_ref n4
  refine ⟨Pl, pl, k0, h4, tk4, _, init ++ [last], rfl, rfl, S3.grow s4, List.mem_append_right _ (hX _ hmP), hps.mono fun q hq => List.mem_append_right _ (hX _ hq), by omega, fun D5 ys yn h5 tk5 hys S5 => ?_⟩
  refine ⟨D5, ys, (init ++ [last]).map (·.1), yn, h5, tk5, rfl, rfl, S5.get (.head _), by rw [hys, List.map_map]; rfl, ?_, fun v6 tk6 n6 => ?_⟩
  · rw [flat_eq, flat_len]; omega
  obtain ⟨t6, rfl⟩ := nt_bytes n6
  rw [flat_eq]
  refine st_loc N S5.drop (.tl (.tl (.tl (.tl (.tl (.tl (.tl (.tl (.tl (.tl (.tl (.tl (.tl (.tl (.tl .hd))))))))))))))) fun h7 tk7 S7 => ?_
  have hfl : ((init ++ [last]).flatMap (·.1)).length ≤ 48 := by rw [flat_len]; omega
  have hfl2 : 2 ≤ ((init ++ [last]).flatMap (·.1)).length := by rw [List.flatMap_append, List.length_append]; simp; omega
  obtain ⟨raw, hraw⟩ : ∃ raw, raw + 1 = ((init ++ [last]).flatMap (·.1)).length := ⟨((init ++ [last]).flatMap (·.1)).length - 1, by omega⟩
  have hvl := vB_len 0 raw (Nat.lt_of_le_of_lt (show raw ≤ 48 by omega) (by decide))
  refine x_asg (w_dict0 hlow S7 fun D8 h8 lo8 S8 st8 => ?_)
  refine st_loc N S8 (.tl (.tl (.tl (.tl (.tl (.tl (.tl (.tl .hd)))))))) fun h9 tk9 S9 => ?_
  refine x_ifW (w_tcmp (w_readW (C.le (by decide)) N (.tail _ (.tail _ (.tail _ (.tail _ (.tail _ (.tail _ (.tail _ (.tail _ (.tail _ (.head _)))))))))) S9 (Ev.loc N S9 (.tl (.tl (.tl (.tl (.tl (.tl (.tl (.tl (.tl .hd)))))))))) F.fa fun h10 tk10 s10 => ?_) (bim rfl rfl _))
  have S10 := S9.grow s10
  refine w_bin (w_varint (n := raw) C N.gl (.tail _ (.tail _ (.tail _ (.tail _ (.head _))))) S10 (Ev.cast (Ev.sub (Ev.lenB (bi_ _ _ _ S10 _) (Ev.loc N S10 (.tl (.tl (.tl (.tl (.tl (.tl (.tl (.tl (.tl (.tl (.tl (.tl (.tl (.tl (.tl .hd)))))))))))))))) (by rw [List.size_toArray]; omega)) Ev.int) (by rw [List.size_toArray]; congr 1; omega)) (Nat.lt_of_le_of_lt (show raw ≤ 48 by omega) (by decide)) fun t11 h11 tk11 S11 => Ev.use' (Ev.loc N S11 (.tl (.tl (.tl (.tl (.tl (.tl (.tl (.tl (.tl (.tl (.tl (.tl (.tl (.tl (.tl .hd)))))))))))))))) fun v12 h12 tk12 n12 s12 => ?_)
  obtain ⟨t12, rfl⟩ := nt_bytes n12
  rw [vB_arr]
  have S12 := S11.grow s12
  refine w_addB (by omega) fun t13 tk13 => ?_
  refine ⟨_, t13, 0, ((((init ++ [last]).flatMap (·.1)).length + 5 : Nat) : Int), h12, tk13, rfl, rfl, Ev.int, Ev.cast (Ev.add (Ev.lenB (bi_ _ _ _ S12 _) (Ev.loc N S12 (.tl (.tl (.tl (.tl (.tl (.tl (.tl (.tl (.tl (.tl (.tl (.tl (.tl (.tl (.tl .hd)))))))))))))))) (by rw [List.size_toArray]; omega)) Ev.int) (by rw [List.size_toArray]; rfl), fun h14 tk14 s14 => Ev.use' ((Ev.loc N S12 (.tl (.tl (.tl (.tl (.tl (.tl (.tl (.tl .hd))))))))).grow s14) fun v15 h15 tk15 n15 s15 => ?_⟩
  obtain rfl := nt_ref n15
  refine ⟨h15, tk15, D8, [(D8, dict0)] ++ vt, rest, _, _, rfl, rfl, (S12.grow s14).grow s15, hcl, dec_run @F.fd (fun p hp => (lp.good p hp).1) (by omega) hl hraw (.inl ⟨rfl, dict0, rfl, dict0_of⟩) lo8 hV (by rw [List.length_append]; omega) (by omega) (by omega), fun _ _ _ _ hf => hf.elim, ?_⟩
  rintro t16 h16 tk16 nwE ⟨tl', vt', vals, hvals, ⟨od, lT, ln, rfl, hod⟩, hV', rfl⟩ S16
  have hvd : ∀ v ∈ vals, VD v := fun v hm => by
    obtain ⟨i, hi, rfl⟩ := List.mem_iff_getElem.mp hm
    have hl2 : vals.length = init.length := by have := congrArg List.length hvals; simpa using this
    have h3 : i < init.length := by omega
    have := congrArg (fun l => l[i]?) hvals
    simp only [List.getElem?_map, List.getElem?_eq_getElem hi, List.getElem?_eq_getElem h3, Option.map_some, Option.some.injEq] at this
    exact ((lp.good _ (List.mem_append_left _ (List.getElem_mem h3))).1.vd).tok this
  refine Ev.use' (Ev.neg Ev.int) fun v17 h17 tk17 n17 s17 => ?_
  obtain ⟨t17, rfl⟩ := nt_int n17
  have S17 := S16.grow s17
  refine .mk (by
    (with_reducible refine ne_int ?_)
    refine (WP.mk (wpAny_truthy_bool ?_))
    refine x_nil (Nx.go (x_retW (w_cmp (Ev.use' (Ev.loc N S17 (.tl (.tl (.tl (.tl (.tl (.tl (.tl (.tl .hd))))))))) fun v18 h18 tk18 n18 s18 => ?_) (bim rfl rfl _))))
    obtain rfl := nt_ref n18
    have S18 := S17.grow s18
    refine w_dict1 hlow S18 (fun h' s' => (Ev.loc N S18 (.tl (.tl .hd))).grow s') fun D19 h19 tk19 lo19 S19 st19 => ?_
    refine w_pcol (h₀ := base) (L := L) (ns := lawNs) (gs := gs) (dr := dr) (os := os) (clo := []) (fun a b => b) (fun m a b h1 h2 => h2) nt_snd C.hand (closure_of (by kernel_rfl)) (by decide +kernel) rfl (by decide +kernel) (by decide +kernel) (by decide +kernel) (by decide +kernel) (by decide +kernel) (by decide +kernel) ?_ (vs := LV sc wi num 2 clr tag ah be D8 f [du, tn, some (.ref Pl), oc, va, some (.bytes ((init ++ [last]).flatMap (·.1)).toArray 0), ru, wh, fi, cu])
    refine w_sliceL (h₀ := base) (L := L) (ns := lawNs) (gs := gs) (dr := dr) (os := os) (a := none) (b := some (-1)) (vs := LV sc wi num 2 clr tag ah be D8 f [du, tn, some (.ref Pl), oc, va, some (.bytes ((init ++ [last]).flatMap (·.1)).toArray 0), ru, wh, fi, cu]) (Ev.use' (Ev.loc N S19 (.tl (.tl (.tl (.tl (.tl (.tl (.tl (.tl (.tl (.tl (.tl (.tl .hd))))))))))))) fun v20 h20 tk20 n20 s20 => ?_)
    obtain rfl := nt_ref n20
    have S20 := S19.grow s20
    refine ⟨Pl, pl.toArray, h20, tk20, _, rfl, rfl, S20, PySem.IsL.isList (n := k0) (S20.get (.tail _ (List.mem_append_right _ (hX _ hmP)))), by rw [List.size_toArray, hps.len]; omega, EvO.none, EvO.some (Ev.neg Ev.int), fun D21 h21 tk21 S21 st21 => ?_⟩
    rw [pick_upto_neg _ (by decide)] at S21
    have hpl := hps.len
    rw [List.length_append, List.length_singleton] at hpl
    have hti : (init ++ [last]).take (pl.length - (-(-1 : Int)).toNat) = init := by
      have e : pl.length - (-(-1 : Int)).toNat = init.length := by rw [hpl]; show init.length + 1 - 1 = _; omega
      rw [e, List.take_left]
    refine ⟨D21, pl.take (pl.length - (-(-1 : Int)).toNat), 0, h21, tk21, _, init, rfl, rfl, S21, .head _, ?_, by simp at hlen; omega, fun D22 ys2 yn2 h22 tk22 hys2 S22 => ?_⟩
    · have := hps.take (pl.length - (-(-1 : Int)).toNat)
      rw [hti] at this
      exact this.mono fun q hq => .tail _ (.tail _ (List.mem_append_right _ (hX _ hq)))
    have S23 : St base L h22 lawNs (LV sc wi num 2 clr tag ah be D8 f [du, tn, some (.ref Pl), oc, va, some (.bytes ((init ++ [last]).flatMap (·.1)).toArray 0), ru, wh, fi, cu]) ((D19, dict0) :: ((D22, listOf ys2.toArray yn2) :: (([(D8, od), (lT, listOf vals.toArray ln)] ++ vt') ++ rest))) := S22.sel [(D21, listOf (List.toArray (pl.take (pl.length - (-(-1 : Int)).toNat))) 0)]
    refine ⟨h22, tk22, _, rfl, S23, fun od2 h24 tk24 hd2 S24 => ?_⟩
    refine c_dcmp false C S24 (.tail _ (.tail _ (.head _))) (.head _) lo8 lo19 hod hd2 (fun _ => .hit val1 (lists_eqAt (xs := vals) (ys := ys2) (PySem.IsL.isList (n := ln) (S24.get (.tail _ (.tail _ (.tail _ (.head _)))))) (PySem.IsL.isList (n := yn2) (S24.get (.tail _ (.head _)))) hvd (hys2.trans hvals.symm) (in1_lt C)) .nil) ?_
    exact k _ vt' h24 tk24 hV' (S24.sel [(D19, od2), (D22, listOf ys2.toArray yn2), (D8, od), (lT, listOf vals.toArray ln)]))

/-- the law -/
theorem law_ok {sc : Addr} {xs : List Value} {is : List Int} (hg0 : A.guards = some []) (C : Cx w loose mean mg mb A env [] A₀ base base L 20) (le : LE env L)
    (S : St base L h lawNs (some (.ref sc) :: List.replicate 19 none) ([(L + 1, cellX oo.1 none), (L + 2, cellX oo.2.1 none), (L + 3, cellX oo.2.2 none)] ++ (lawTabs ++ [(123, tabObj #[]), (130, tabObj #[]), (187, tabObj #[])])))
    (hl : h.IsList sc xs.toArray) (hi : IntsAre xs is) (hz : is.length ≤ 63)
    (k : ∀ vs' h' tk' nw, St base L h' lawNs vs' nw → GT (lawTabs ++ [(123, tabObj #[]), (130, tabObj #[]), (187, tabObj #[])]) nw → QF (.ret (.bool true)) ⟨h', gs, dr, tk', os⟩) :
    WP prog w A (execs (lawBody w) env) QF E ⟨h, gs, dr, tk, os⟩ := by
  refine law_pre C le S hl hi hz fun kd wi bi num md clr tag ah be f cl d l t2 t3 D h1 tk1 dl F Dr lo gt S1 => ?_
  have hV0 : VTs [(123, tabObj #[]), (130, tabObj #[])] := ⟨[(123, tabObj #[])], [(130, tabObj #[])], rfl, .inl rfl, .inl rfl⟩
  refine law_loop (R := [(187, tabObj #[])]) hg0 C le F lo Dr hV0 S1 fun Du Pl ps ob tv vv kv wv fv dl2 vt X h2 tk2 Dr2 hV lp S2 => ?_
  refine law_end1 C le F Dr2 lp (fun q hq => List.mem_append_right _ (List.mem_append_right _ (List.mem_append_right _ hq))) S2 fun ob1 ps1 j dl3 h3 tk3 eb hj Dr3 S3 => ?_
  have S4 : St base L h3 lawNs (LV sc wi num md clr tag ah be D f [some (.ref Du), tv, some (.ref Pl), some (.bytes ob1.toArray 0), vv, kv, some (.bytes ob.toArray 0), some (.bytes (ah ++ tag ++ ob1.take j).toArray 0), some (.int ((ah ++ tag).length : Nat) 0), some (.int j 0)]) (vt ++ (cl ++ ((187, tabObj #[]) :: X))) := S3.sel (dl3 ++ LC L oo d kd bi t2 t3)
  have hcl : ∀ q ∈ cl, q ∈ cl ++ ((187, tabObj #[]) :: X) := fun q hq => List.mem_append_left _ hq
  have hX : ∀ q ∈ X, q ∈ cl ++ ((187, tabObj #[]) :: X) := fun q hq => List.mem_append_right _ (.tail _ hq)
  have hGT : ∀ vt', VTs vt' → GT (lawTabs ++ [(123, tabObj #[]), (130, tabObj #[]), (187, tabObj #[])]) (vt' ++ (cl ++ ((187, tabObj #[]) :: X))) := fun vt' hV' P ps hm => by
    rcases List.mem_append.mp hm with hm | hm
    · obtain ⟨ps', h⟩ := gt P ps hm
      exact ⟨ps', List.mem_append_right _ (List.mem_append_left _ h)⟩
    · obtain ⟨a, b, rfl, h1, h2⟩ := hV'
      simp only [List.mem_cons, List.not_mem_nil, or_false, Prod.mk.injEq] at hm
      rcases hm with ⟨rfl, _⟩ | ⟨rfl, _⟩ | ⟨rfl, _⟩
      · rcases h1 with rfl | ⟨_, _, _, rfl, _⟩ <;> exact ⟨_, .head _⟩
      · rcases h2 with rfl | ⟨_, _, _, rfl, _⟩ <;> exact ⟨_, List.mem_append_left _ (List.mem_append_right _ (.head _))⟩
      · exact ⟨_, List.mem_append_right _ (List.mem_append_right _ (.head _))⟩
  refine law_end2 C le F eb hj hcl hV S4 fun D5 vt5 h5 tk5 hV5 S5 => ?_
  refine law_end3 C le F eb hj hcl hV5 S5 fun vt6 h6 tk6 hV6 S6 => ?_
  refine law_end4 C le F eb hcl hV6 S6 fun D7 tl7 vt7 wh7 h7 tk7 hT7 lo7 hV7 S7 => ?_
  refine law_end5 C le F eb lp hX hT7 lo7 S7 fun h8 tk8 S8 => ?_
  refine law_end6 C le F lp (fun q hq => List.mem_append_right _ (hX q hq)) S8 (fun h9 tk9 S9 => k _ h9 tk9 _ S9 (hGT vt7 hV7)) fun init last h9 tk9 e2 eps hl2 S9 => ?_
  subst e2 eps
  exact law_end7 C le F lp hl2 hcl hX hV7 S9 fun vs' vt' h10 tk10 hV10 S10 => k vs' h10 tk10 _ S10 (hGT vt' hV10)
end
end Mine
end
section
open PySem PySem.Spec PySem.Calls PySem.W PyProof.Rows
open LCg (NsObj ns_obj fr_but)
set_option maxRecDepth 100000
set_option maxHeartbeats 4000000
set_option linter.unusedVariables false
namespace Mine
theorem cellX_of {o : Obj} {v : Option Value} (d : o.data = .cell v) : cellX o v = o := by
  cases o; simp only [cellX] at *; subst d; rfl
theorem grown_of {L : Addr} {g h : Heap} {ns : List Str} {vs : List (Option Value)} {nw : List (Addr × Obj)} (S : St g L h ns vs nw) (G : GT (lawTabs ++ [(123, tabObj #[]), (130, tabObj #[]), (187, tabObj #[])]) nw) :
    GrownAll [(302, 298), (294, 290), (183, 179), (176, 172), (169, 165), (134, 130), (127, 123), (106, 102), (191, 187)] h := by
  have q : ∀ P, (P, tabObj #[]) ∈ (lawTabs ++ [(123, tabObj #[]), (130, tabObj #[]), (187, tabObj #[])]) → GrownAt P h := fun P hm => let ⟨ps, h⟩ := G P #[] hm; ⟨ps, S.get h⟩
  exact ⟨q _ (by simp), q _ (by simp), q _ (by simp), q _ (by simp), q _ (by simp), q _ (by simp), q _ (by simp), q _ (by simp), q _ (by simp), trivial⟩
theorem frv_one {sc : Addr} (x : Str) : frv lawNs (some (.ref sc) :: List.replicate 19 none) x = if x = Str.ofString "script" then some (.ref sc) else none := by
  show (if x = Str.ofString "script" then some (Value.ref sc) else frv _ (List.replicate 19 none) x) = _
  congr 1
  exact frv_none [Str.ofString "wire", Str.ofString "number", Str.ofString "mode", Str.ofString "clears", Str.ofString "tag", Str.ofString "ahead", Str.ofString "behind", Str.ofString "table", Str.ofString "decode", Str.ofString "due", Str.ofString "turn", Str.ofString "pieces", Str.ofString "octets", Str.ofString "value", Str.ofString "packed", Str.ofString "run", Str.ofString "whole", Str.ofString "first", Str.ofString "cut"] x

theorem law_glue {prog : Program} {w : World} {loose : List Str} {mean : ExcName → Option Value} {mg mb : Str → Option Value} {g h₁ : Heap} {L : Addr} {m : Str → Option Value} {o1 o2 o3 : Obj} {v1 v2 v3 : Option Value} {env : Env} {sc : Addr} {xs : List Value} {is : List Int}
    {gs : Array GenState} {dr : Drawn} {tk : Nat} {os : OsState} {QF : Flow → Shared → Prop} {E : Value → Shared → Prop}
    (X : (hd.heap_39 w.params).In g) (T : Top topProg loose mean mg mb g) (K : Below callerA g [] g) (F : Fr g L h₁ m)
    (N : News g L h₁ [(L + 1 + 1 + 1, o3), (L + 1 + 1, o2), (L + 1, o1), (298, tabObj #[]), (290, tabObj #[]), (179, tabObj #[]), (172, tabObj #[]), (165, tabObj #[]), (130, tabObj #[]), (123, tabObj #[]), (102, tabObj #[]), (187, tabObj #[])])
    (hl : g.IsList sc xs.toArray) (hI : IntsAre xs is) (hz : is.length ≤ 63) (lt : 298 < L)
    (d1 : o1.data = .cell v1) (d2 : o2.data = .cell v2) (d3 : o3.data = .cell v3) (e1 : v1 = none) (e2 : v2 = none) (e3 : v3 = none)
    (hm : m = fun y => if y = Str.ofString "script" then some (.ref sc) else none) (le : LE env L)
    (k : ∀ m' h' tk', Fr g L h' m' → GrownAll [(302, 298), (294, 290), (183, 179), (176, 172), (169, 165), (134, 130), (127, 123), (106, 102), (191, 187)] h' → QF (.ret (.bool true)) ⟨h', gs, dr, tk', os⟩) :
    wpAny (model prog w) (callerA.deeper env) (execs (lawBody w) env) QF E ⟨h₁, gs, dr, tk, os⟩ := by
  subst e1 e2 e3 hm
  have C : Cx w loose mean mg mb (callerA.deeper env) env [] callerA g g L 20 :=
    { below := K, frames := Around.frames_deeper (A := callerA) (env := env) (outer := []) rfl, frame := le.N.frame, kind := le.N.kind, X := X, T := T, hand := rfl, depth := by show 1 + claimMargin + 1 + 20 ≤ 330; decide, units := by show 4 + 3 + 20 * 20 ≤ 8000; omega }
  have S0 : St g L h₁ lawNs (some (.ref sc) :: List.replicate 19 none) [(L + 3, o3), (L + 2, o2), (L + 1, o1), (298, tabObj #[]), (290, tabObj #[]), (179, tabObj #[]), (172, tabObj #[]), (165, tabObj #[]), (130, tabObj #[]), (123, tabObj #[]), (102, tabObj #[]), (187, tabObj #[])] := by
    refine ⟨⟨_, F, fun x => ?_⟩, N, ?_⟩
    · rw [frv_one]; split <;> rfl
    · have lt' : (298 : Nat) < L := lt
      simp
      omega
  have S1 : St g L h₁ lawNs (some (.ref sc) :: List.replicate 19 none) ([(L + 1, cellX (o1, o2, o3).1 none), (L + 2, cellX (o1, o2, o3).2.1 none), (L + 3, cellX (o1, o2, o3).2.2 none)] ++ (lawTabs ++ [(123, tabObj #[]), (130, tabObj #[]), (187, tabObj #[])])) := by
    rw [cellX_of d1, cellX_of d2, cellX_of d3]
    exact S0.sel []
  exact (law_ok (oo := (o1, o2, o3)) rfl C le S1 (hl.at fun o e => F.keep _ o e) hI hz fun vs' h' tk' nw S G => S.elim fun m' F' _ => k m' h' tk' F' (grown_of S G)).out
end Mine
namespace Mine
theorem law_le {name : Str} {scope : Scope} {L a : Addr} {cd : Value} (hk : scope.kind = .function) (hb : (envOfC name scope L a cd).blockKind = .function) (h1 : ∀ x ∈ lawNs, scope.names.lookup x = some .local) (h2 : ∀ x ∈ lawGl, scope.names.lookup x = some .globalImplicit)
    (k1 : scope.names.lookup (Str.ofString "draw") = some .cell) (k2 : scope.names.lookup (Str.ofString "kind") = some .cell) (k3 : scope.names.lookup (Str.ofString "bits") = some .cell)
    (c1 : (cellsFrom (L + 1) scope.names []).lookup (Str.ofString "draw") = some (L + 1)) (c2 : (cellsFrom (L + 1) scope.names []).lookup (Str.ofString "kind") = some (L + 2)) (c3 : (cellsFrom (L + 1) scope.names []).lookup (Str.ofString "bits") = some (L + 3)) :
    LE (envOfC name scope L a cd) L :=
  ⟨⟨hk, rfl, rfl, rfl, rfl, by decide +kernel, h1, h2, by decide +kernel⟩, hb, k1, k2, k3, c1, c2, c3⟩
end Mine
end
open PySem PySem.W PyProof.Rows
set_option maxRecDepth 100000 in
set_option maxHeartbeats 8000000 in
theorem PySem.Challenge.cw_ae6020_01_holds : PySem.Challenge.rw_ae6020_01.Holds := by
  refine Mine.hd ?_
  k_go0
  rename (Mine.hd.heap_39 _).In _ => X'
  rename Top topProg _ _ _ _ _ => T'
  rename Below _ _ _ _ => K'
  rename Fr _ _ _ _ => F'
  rename News _ _ _ _ => N'
  rename Heap.IsList (ghostOf _ _) _ _ => hl
  rename IntsAre _ _ => hI
  rename Shared.gens _ = #[] => hg
  rename (298 < _) ∧ _ => l0
  refine Mine.law_glue X' T' K' F' N' hl hI (by omega) l0.1 (by assumption) (by assumption) (by assumption) ?_ ?_ ?_ ?_ ?_ ?_
  · rfl
  · rfl
  · rfl
  · rfl
  · exact Mine.law_le rfl rfl (by decide +kernel) (by decide +kernel) (by decide +kernel) (by decide +kernel) (by decide +kernel) (by kernel_rfl) (by kernel_rfl) (by kernel_rfl)
  · intro m' h' tk' Fx Gx
    refine ⟨?_, Gx⟩
    kc_close
