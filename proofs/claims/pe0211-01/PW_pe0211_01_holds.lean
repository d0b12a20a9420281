import PyProof.Rows.All
import Wide.All
import OpenK.AllK
import Wide.FinOn
import PyProof.StrLawsIn
import Lean
import PySem.Challenge.RW_pe0211_01
set_option Elab.async false
set_option linter.all false
set_option maxRecDepth 100000
set_option maxHeartbeats 1000000
namespace Mine
open PySem PySem.Spec PySem.Calls
abbrev prog : Program := PySem.Challenge.pw_pe0211_01

/-! ## heaps that grow -/
def TAB : Addr := 160
def tabObj (vs : Array Value) : Obj := { cls := .none, data := .fields vs }

def Ext (h h' : Heap) : Prop := ∀ b o, h.get? b = some o → h'.get? b = some o ∨ (b = TAB ∧ ∃ vs more, o = tabObj vs ∧ h'.get? b = some (tabObj (vs ++ more)))

theorem Ext.refl (h : Heap) : Ext h h := fun _ _ e => .inl e
theorem Ext.trans {a b c : Heap} (x : Ext a b) (y : Ext b c) : Ext a c := by
  intro p o e
  rcases x p o e with h | ⟨hp, vs, more, ho, h⟩
  · exact y p o h
  · rcases y p _ h with h' | ⟨_, vs', more', ho', h'⟩
    · exact .inr ⟨hp, vs, more, ho, h'⟩
    · have : vs' = vs ++ more := by
        have := ho'
        simp only [tabObj, Obj.mk.injEq, Data.fields.injEq] at this
        exact this.2.2.1.symm
      subst this
      exact .inr ⟨hp, vs, more ++ more', ho, by rw [h', Array.append_assoc]⟩
theorem Ext.of_keep {h h' : Heap} (k : ∀ b o, h.get? b = some o → h'.get? b = some o) : Ext h h' := fun b o e => .inl (k b o e)
theorem Ext.push {h h' : Heap} (x : Ext h h') (o : Obj) : Ext h (h'.push o) := x.trans (.of_keep fun _ _ e => Heap.get?_push_of_some _ e)
theorem Ext.cls {h h' : Heap} (x : Ext h h') {b : Addr} {o : Obj} (e : h.get? b = some o) (hc : o.cls ≠ .none) : h'.get? b = some o := by
  rcases x b o e with h | ⟨_, vs, _, rfl, _⟩
  · exact h
  · exact absurd rfl hc
theorem Ext.data {h h' : Heap} (x : Ext h h') {b : Addr} {o : Obj} (e : h.get? b = some o) (hd : ∀ vs, o.data ≠ .fields vs) : h'.get? b = some o := by
  rcases x b o e with h | ⟨_, vs, _, rfl, _⟩
  · exact h
  · exact absurd rfl (hd vs)
theorem Ext.none {h h' : Heap} (x : Ext h h') {b : Addr} (e : h'.get? b = none) : h.get? b = none := by
  cases q : h.get? b with
  | none => rfl
  | some o => rcases x b o q with k | ⟨_, _, _, _, k⟩ <;> rw [e] at k <;> cases k
theorem Ext.ns {h h' : Heap} (x : Ext h h') {a : Addr} {m} (n : h.Ns a m) : h'.Ns a m := by
  obtain ⟨o, es, ep, ho, hd, r⟩ := n
  exact ⟨o, es, ep, x.data ho (by rw [hd]; intro _ e; cases e), hd, r⟩
theorem Ext.codeRec {h h' : Heap} (x : Ext h h') {cd : Value} {q : Str} (n : h.CodeRec cd q) (hc : ∀ c o, cd = .ref c → h.get? c = some o → o.cls ≠ .none) : h'.CodeRec cd q := by
  obtain ⟨c, o, vs, t, rfl, ho, r⟩ := n
  exact ⟨c, o, vs, t, rfl, x.cls ho (hc c o rfl ho), r⟩
theorem Ext.isList {h h' : Heap} (x : Ext h h') {a : Addr} {vs} (n : h.IsList a vs) : h'.IsList a vs := by
  obtain ⟨o, ho, hc, r⟩ := n
  exact ⟨o, x.cls ho (by rw [hc]; exact fun e => nomatch e), hc, r⟩
theorem Ext.isTuple {h h' : Heap} (x : Ext h h') {a : Addr} {vs} (n : h.IsTuple a vs) : h'.IsTuple a vs := by
  obtain ⟨o, ho, hc, r⟩ := n
  exact ⟨o, x.cls ho (by rw [hc]; exact fun e => nomatch e), hc, r⟩
theorem Ext.noLimit {h h' : Heap} (x : Ext h h') (n : h.NoLimit) : h'.NoLimit := let ⟨mc, a, b⟩ := n; ⟨mc, x.ns a, b⟩
theorem fresh_none (h : Heap) : h.get? h.objs.size = none := by
  cases e : h.get? h.objs.size with
  | none => rfl
  | some o => exact absurd (Heap.lt_size e) (Nat.lt_irrefl _)

/-! ## reading data: what is read stays where its lists and tuples stay -/
def isTup (o : Obj) : Prop := o.cls = .type "tuple" ∧ ∃ vs n, o.data = .seq vs n
def isLst (o : Obj) : Prop := (o.cls = .type "list" ∧ ∃ vs n, o.data = .seq vs n) ∨ (o.cls = .type "dict" ∧ ∃ es n, o.data = .dict es n)
def KeepAs (h h' : Heap) (as : List Addr) : Prop := ∀ b o, h.get? b = some o → (isTup o ∨ (isLst o ∧ b ∈ as)) → h'.get? b = some o
theorem KeepAs.sub {h h' : Heap} {as bs : List Addr} (k : KeepAs h h' as) (s : ∀ b ∈ bs, b ∈ as) : KeepAs h h' bs := fun b o e hb => k b o e (hb.imp id fun m => ⟨m.1, s b m.2⟩)
def Alive (h : Heap) (as : List Addr) : Prop := ∀ b ∈ as, h.get? b ≠ none
theorem Alive.cons {h : Heap} {a : Addr} {o : Obj} {as : List Addr} (e : h.get? a = some o) (k : Alive h as) : Alive h (a :: as) := fun b m => by
  cases m with
  | head => rw [e]; exact fun e => nomatch e
  | tail _ m => exact k b m
theorem Alive.app {h : Heap} {as bs : List Addr} (k : Alive h as) (q : Alive h bs) : Alive h (as ++ bs) := fun b m => (List.mem_append.mp m).elim (k b) (q b)
theorem move_both (h h' : Heap) : (∀ {v d as}, Reads h v d as → Alive h as ∧ (KeepAs h h' as → Reads h' v d as)) ∧ ∀ {v d as}, ReadsAll h v d as → Alive h as ∧ (KeepAs h h' as → ReadsAll h' v d as) := by
  have c1 := @Reads.rec h (fun v d as _ => Alive h as ∧ (KeepAs h h' as → Reads h' v d as)) (fun v d as _ => Alive h as ∧ (KeepAs h h' as → ReadsAll h' v d as))
    ⟨fun _ m => (nomatch m), fun _ => .none⟩ (fun b => ⟨fun _ m => (nomatch m), fun _ => .bool b⟩) (fun i t => ⟨fun _ m => (nomatch m), fun _ => .int i t⟩) (fun i t => ⟨fun _ m => (nomatch m), fun _ => .str i t⟩)
    (fun e hc hd _ ih => ⟨.cons e ih.1, fun k => .list (k _ _ e (.inr ⟨.inl ⟨hc, _, _, hd⟩, List.mem_cons_self ..⟩)) hc hd (ih.2 (k.sub fun _ => List.mem_cons_of_mem _))⟩)
    (fun e hc hd _ ih => ⟨ih.1, fun k => .tuple (k _ _ e (.inl ⟨hc, _, _, hd⟩)) hc hd (ih.2 k)⟩)
    (fun e hc hd _ _ ih ih' => ⟨.app (.cons e ih.1) ih'.1, fun k => .dict (k _ _ e (.inr ⟨.inr ⟨hc, _, _, hd⟩, List.mem_append_left _ (List.mem_cons_self ..)⟩)) hc hd (ih.2 (k.sub fun _ m => List.mem_append_left _ (List.mem_cons_of_mem _ m))) (ih'.2 (k.sub fun _ => List.mem_append_right _))⟩)
    ⟨fun _ m => (nomatch m), fun _ => .nil⟩
    (fun _ _ ih ih' => ⟨.app ih.1 ih'.1, fun k => .cons (ih.2 (k.sub fun _ => List.mem_append_left _)) (ih'.2 (k.sub fun _ => List.mem_append_right _))⟩)
  refine ⟨@c1, fun {v d as} r => ?_⟩
  induction v generalizing d as with
  | nil => cases r with | nil => exact ⟨fun _ m => (nomatch m), fun _ => .nil⟩
  | cons _ _ ih => cases r with | cons r q => have ih' := ih q; exact ⟨.app (c1 r).1 ih'.1, fun k => .cons ((c1 r).2 (k.sub fun _ => List.mem_append_left _)) (ih'.2 (k.sub fun _ => List.mem_append_right _))⟩
theorem isTup.cls {o : Obj} (t : isTup o) : o.cls ≠ .none := by rw [t.1]; exact fun e => nomatch e
theorem isLst.cls {o : Obj} (t : isLst o) : o.cls ≠ .none := by
  rcases t with t | t <;> rw [t.1] <;> exact fun e => nomatch e
theorem Reads.ext {h h' : Heap} (x : Ext h h') {v : Value} {d : PyData} {as : List Addr} (r : Reads h v d as) : Reads h' v d as :=
  ((move_both h h').1 r).2 fun b o e hb => x.cls e (hb.elim isTup.cls fun q => q.1.cls)
theorem ReadsAll.ext {h h' : Heap} (x : Ext h h') {v : List Value} {d : List PyData} {as : List Addr} (r : ReadsAll h v d as) : ReadsAll h' v d as :=
  ((move_both h h').2 r).2 fun b o e hb => x.cls e (hb.elim isTup.cls fun q => q.1.cls)

/-- data read, its lists all within P -/
def Rd (h : Heap) (P : Addr → Prop) (d : PyData) (v : Value) : Prop := ∃ as, Reads h v d as ∧ ∀ a ∈ as, P a
def RdAll (h : Heap) (P : Addr → Prop) (ds : List PyData) (vs : List Value) : Prop := ∃ as, ReadsAll h vs ds as ∧ ∀ a ∈ as, P a
theorem Rd.ext {h h' : Heap} {P : Addr → Prop} {d v} (x : Ext h h') (r : Rd h P d v) : Rd h' P d v := let ⟨as, r, p⟩ := r; ⟨as, Reads.ext x r, p⟩
theorem RdAll.ext {h h' : Heap} {P : Addr → Prop} {d v} (x : Ext h h') (r : RdAll h P d v) : RdAll h' P d v := let ⟨as, r, p⟩ := r; ⟨as, ReadsAll.ext x r, p⟩
theorem Rd.mono {h : Heap} {P P' : Addr → Prop} {d v} (k : ∀ a, P a → P' a) (r : Rd h P d v) : Rd h P' d v := let ⟨as, r, p⟩ := r; ⟨as, r, fun a m => k a (p a m)⟩
theorem RdAll.mono {h : Heap} {P P' : Addr → Prop} {d v} (k : ∀ a, P a → P' a) (r : RdAll h P d v) : RdAll h P' d v := let ⟨as, r, p⟩ := r; ⟨as, r, fun a m => k a (p a m)⟩
/-- objects outside P that are no tuples are changed: the data stays -/
theorem Rd.chg {h h' : Heap} {P X : Addr → Prop} {d v} (k : ∀ b o, ¬ X b → h.get? b = some o → h'.get? b = some o) (hx : ∀ b o, X b → h.get? b = some o → ¬ P b ∧ ¬ isTup o) (r : Rd h P d v) : Rd h' P d v := by
  obtain ⟨as, r, p⟩ := r
  refine ⟨as, ((move_both h h').1 r).2 fun b o e hb => k b o (fun x => ?_) e, p⟩
  have q := hx b o x e
  exact hb.elim q.2 fun z => q.1 (p _ z.2)
theorem RdAll.chg {h h' : Heap} {P X : Addr → Prop} {d v} (k : ∀ b o, ¬ X b → h.get? b = some o → h'.get? b = some o) (hx : ∀ b o, X b → h.get? b = some o → ¬ P b ∧ ¬ isTup o) (r : RdAll h P d v) : RdAll h' P d v := by
  obtain ⟨as, r, p⟩ := r
  refine ⟨as, ((move_both h h').2 r).2 fun b o e hb => k b o (fun x => ?_) e, p⟩
  have q := hx b o x e
  exact hb.elim q.2 fun z => q.1 (p _ z.2)
theorem RdAll.nil {h : Heap} {P : Addr → Prop} : RdAll h P [] [] := ⟨[], .nil, fun _ m => nomatch m⟩
theorem RdAll.cons {h : Heap} {P : Addr → Prop} {d ds v vs} (r : Rd h P d v) (q : RdAll h P ds vs) : RdAll h P (d :: ds) (v :: vs) := by
  obtain ⟨as, r, p⟩ := r
  obtain ⟨bs, q, p'⟩ := q
  exact ⟨as ++ bs, .cons r q, fun a m => (List.mem_append.mp m).elim (p a) (p' a)⟩
theorem RdAll.cons_inv {h : Heap} {P : Addr → Prop} {d ds vs} (r : RdAll h P (d :: ds) vs) : ∃ v vs', vs = v :: vs' ∧ Rd h P d v ∧ RdAll h P ds vs' := by
  obtain ⟨as, r, p⟩ := r
  cases r with
  | cons r q => exact ⟨_, _, rfl, ⟨_, r, fun a m => p a (List.mem_append_left _ m)⟩, ⟨_, q, fun a m => p a (List.mem_append_right _ m)⟩⟩
theorem RdAll.nil_inv {h : Heap} {P : Addr → Prop} {vs} (r : RdAll h P [] vs) : vs = [] := by
  obtain ⟨as, r, p⟩ := r
  cases r; rfl
theorem RdAll.length {h : Heap} {P : Addr → Prop} {ds vs} (r : RdAll h P ds vs) : vs.length = ds.length := by
  induction ds generalizing vs with
  | nil => rw [r.nil_inv]; rfl
  | cons d ds ih =>
    obtain ⟨v, vs', rfl, _, q⟩ := r.cons_inv
    exact congrArg Nat.succ (ih q)
theorem RdAll.size {h : Heap} {P : Addr → Prop} {ds : List PyData} {vs : Array Value} (r : RdAll h P ds vs.toList) : vs.size = ds.length := r.length
theorem RdAll.get {h : Heap} {P : Addr → Prop} {ds vs} (r : RdAll h P ds vs) (i : Nat) (d : PyData) (e : ds[i]? = some d) : ∃ v, vs[i]? = some v ∧ Rd h P d v := by
  induction ds generalizing vs i with
  | nil => cases e
  | cons d ds ih =>
    obtain ⟨v, vs', rfl, r1, q⟩ := r.cons_inv
    cases i with
    | zero => cases e; exact ⟨v, rfl, r1⟩
    | succ i => exact ih q i e
theorem RdAll.append {h : Heap} {P : Addr → Prop} {ds vs es ws} (r : RdAll h P ds vs) (q : RdAll h P es ws) : RdAll h P (ds ++ es) (vs ++ ws) := by
  induction ds generalizing vs with
  | nil => rw [r.nil_inv]; exact q
  | cons d ds ih =>
    obtain ⟨v, vs', rfl, r1, q1⟩ := r.cons_inv
    exact RdAll.cons r1 (ih q1)
theorem RdAll.drop {h : Heap} {P : Addr → Prop} {ds vs} (n : Nat) (r : RdAll h P ds vs) : RdAll h P (ds.drop n) (vs.drop n) := by
  induction ds generalizing vs n with
  | nil => rw [r.nil_inv, List.drop_nil, List.drop_nil]; exact RdAll.nil
  | cons d ds ih =>
    obtain ⟨v, vs', rfl, r1, q1⟩ := r.cons_inv
    cases n with
    | zero => exact r
    | succ n => exact ih n q1
theorem RdAll.take {h : Heap} {P : Addr → Prop} {ds vs} (n : Nat) (r : RdAll h P ds vs) : RdAll h P (ds.take n) (vs.take n) := by
  induction ds generalizing vs n with
  | nil => rw [r.nil_inv, List.take_nil, List.take_nil]; exact RdAll.nil
  | cons d ds ih =>
    obtain ⟨v, vs', rfl, r1, q1⟩ := r.cons_inv
    cases n with
    | zero => exact RdAll.nil
    | succ n => exact RdAll.cons r1 (ih n q1)
theorem Rd.list {h : Heap} {P : Addr → Prop} {xs vs a} (l : h.IsList a vs) (p : P a) (r : RdAll h P xs vs.toList) : Rd h P (.list xs) (.ref a) := by
  obtain ⟨o, ho, hc, n, hd⟩ := l
  obtain ⟨as, r, q⟩ := r
  exact ⟨a :: as, .list ho hc hd r, fun b m => (List.mem_cons.mp m).elim (fun e => e ▸ p) (q b)⟩
theorem Rd.list_inv {h : Heap} {P : Addr → Prop} {xs v} (r : Rd h P (.list xs) v) : ∃ a vs, v = .ref a ∧ P a ∧ h.IsList a vs ∧ RdAll h P xs vs.toList := by
  obtain ⟨as, r, q⟩ := r
  cases r with
  | list ho hc hd r => exact ⟨_, _, rfl, q _ (List.mem_cons_self ..), ⟨_, ho, hc, _, hd⟩, ⟨_, r, fun b m => q b (List.mem_cons_of_mem _ m)⟩⟩
theorem Rd.tuple {h : Heap} {P : Addr → Prop} {xs vs a} (l : h.IsTuple a vs) (r : RdAll h P xs vs.toList) : Rd h P (.tuple xs) (.ref a) := by
  obtain ⟨o, ho, hc, n, hd⟩ := l
  obtain ⟨as, r, q⟩ := r
  exact ⟨as, .tuple ho hc hd r, q⟩
theorem Rd.tuple_inv {h : Heap} {P : Addr → Prop} {xs v} (r : Rd h P (.tuple xs) v) : ∃ a vs, v = .ref a ∧ h.IsTuple a vs ∧ RdAll h P xs vs.toList := by
  obtain ⟨as, r, q⟩ := r
  cases r with
  | tuple ho hc hd r => exact ⟨_, _, rfl, ⟨_, ho, hc, _, hd⟩, ⟨_, r, q⟩⟩
theorem Rd.int {h : Heap} {P : Addr → Prop} (i : Int) (t : Tok) : Rd h P (.int i) (.int i t) := ⟨[], .int i t, fun _ m => nomatch m⟩
theorem Rd.str {h : Heap} {P : Addr → Prop} (i : Str) (t : Tok) : Rd h P (.str i) (.str i t) := ⟨[], .str i t, fun _ m => nomatch m⟩
theorem Rd.bool {h : Heap} {P : Addr → Prop} (b : Bool) : Rd h P (.bool b) (.bool b) := ⟨[], .bool b, fun _ m => nomatch m⟩
theorem Rd.none {h : Heap} {P : Addr → Prop} : Rd h P .none .none := ⟨[], .none, fun _ m => nomatch m⟩
theorem Rd.int_inv {h : Heap} {P : Addr → Prop} {i v} (r : Rd h P (.int i) v) : ∃ t, v = .int i t := by obtain ⟨_, r, _⟩ := r; cases r; exact ⟨_, rfl⟩
theorem Rd.str_inv {h : Heap} {P : Addr → Prop} {i v} (r : Rd h P (.str i) v) : ∃ t, v = .str i t := by obtain ⟨_, r, _⟩ := r; cases r; exact ⟨_, rfl⟩
theorem Rd.bool_inv {h : Heap} {P : Addr → Prop} {i v} (r : Rd h P (.bool i) v) : v = .bool i := by obtain ⟨_, r, _⟩ := r; cases r; rfl
theorem Rd.none_inv {h : Heap} {P : Addr → Prop} {v} (r : Rd h P .none v) : v = .none := by obtain ⟨_, r, _⟩ := r; cases r; rfl
end Mine
namespace Mine
open PySem PySem.Spec PySem.Calls PySem.Builtin PySem.Builtin.Str

/-! ## the values of the rules -/
inductive V where
  | d (x : PyData)
  | own (xs : List PyData)
  | rng (a b : Int)
  | fn (v : Value)
  | ws (raw : Str)
  | wsl (raws : List Str)

abbrev Sc := List (Str × NameKind)
abbrev Rho := List (Str × V)

noncomputable def small (i : Int) : Bool := decide (-1073741824 < i) && decide (i < 1073741824)
noncomputable def short (n : Nat) : Bool := Nat.ble n 1000000
noncomputable def boolV (b : Bool) : V := .d (.bool b)
noncomputable def intRange (a b : Int) : List Int := (List.range (b - a).toNat).map fun (k : Nat) => a + (k : Int)

inductive ItemsR : V → List V → Prop
  | list (xs) : ItemsR (.d (.list xs)) (xs.map .d)
  | tuple (xs) : ItemsR (.d (.tuple xs)) (xs.map .d)
  | str (s : Str) : ItemsR (.d (.str s)) (s.cps.toList.map fun c => .d (.str ⟨#[c]⟩))
  | own (xs) : ItemsR (.own xs) (xs.map .d)
  | rng {a b} (h : small a = true) (h' : small b = true) : ItemsR (.rng a b) ((intRange a b).map fun i => .d (.int i))
  | wsl (rs) : ItemsR (.wsl rs) (rs.map .ws)
/-- a new list of these values -/
inductive PackR : List V → V → Prop
  | d (xs) : PackR (xs.map .d) (.d (.list xs))
  | ws (rs) : PackR (rs.map .ws) (.wsl rs)
inductive TruthR : V → Bool → Prop
  | bool (b) : TruthR (.d (.bool b)) b
  | str {s : Str} (h : short s.length = true) : TruthR (.d (.str s)) (s.length != 0)
  | tuple {xs : List PyData} (h : short xs.length = true) : TruthR (.d (.tuple xs)) (!xs.isEmpty)
inductive ListR : V → List PyData → Prop
  | d (xs) : ListR (.d (.list xs)) xs
  | own (xs) : ListR (.own xs) xs
inductive BinR : Operator → V → V → V → Prop
  | addI (x y) : BinR .Add (.d (.int x)) (.d (.int y)) (.d (.int (x + y)))
  | subI (x y) : BinR .Sub (.d (.int x)) (.d (.int y)) (.d (.int (x - y)))
  | mulI {x y} (h : small x = true) : BinR .Mult (.d (.int x)) (.d (.int y)) (.d (.int (x * y)))
  | divI {x y} (h : small y = true) (h' : (y != 0) = true) : BinR .FloorDiv (.d (.int x)) (.d (.int y)) (.d (.int (x.fdiv y)))
  | modI {x y} (h' : (y != 0) = true) : BinR .Mod (.d (.int x)) (.d (.int y)) (.d (.int (x.fmod y)))
  | addS {x y : Str} (h : short x.length = true) (h' : short y.length = true) : BinR .Add (.d (.str x)) (.d (.str y)) (.d (.str (x ++ y)))
  | rep {x y} (h : small y = true) (h' : short y.toNat = true) : BinR .Mult (.d (.list [x])) (.d (.int y)) (.d (.list (List.replicate y.toNat x)))
  | addL {a b xs ys} (ha : ListR a xs) (hb : ListR b ys) (h : short xs.length = true) (h' : short ys.length = true) : BinR .Add a b (.d (.list (xs ++ ys)))

/-- what may be compared by == -/
noncomputable def eqOk (x : PyData) : Bool := x.canLay0 && Nat.ble x.depth 64
inductive CmpR : CmpOp → V → V → Bool → Prop
  | gt (x y) : CmpR .Gt (.d (.int x)) (.d (.int y)) (decide (y < x))
  | lt (x y) : CmpR .Lt (.d (.int x)) (.d (.int y)) (decide (x < y))
  | ge (x y) : CmpR .GtE (.d (.int x)) (.d (.int y)) (decide (y ≤ x))
  | le (x y) : CmpR .LtE (.d (.int x)) (.d (.int y)) (decide (x ≤ y))
  | eq {x y} (h : eqOk x = true) (h' : eqOk y = true) : CmpR .Eq (.d x) (.d y) (PyData.eqv x y)
  | ne {x y} (h : eqOk x = true) (h' : eqOk y = true) : CmpR .NotEq (.d x) (.d y) (!PyData.eqv x y)
  | is (x y) : CmpR .Is (.d (.bool x)) (.d (.bool y)) (x == y)
  | notIn (x y) : CmpR .NotIn (.d (.str x)) (.d (.str y)) (occurrences y x 0 y.length 1).isEmpty

noncomputable def aIdx (n : Nat) (i : Int) : Option Nat := if 0 ≤ i ∧ i < n then some i.toNat else if -(n : Int) ≤ i ∧ i < 0 then some (i + n).toNat else none
inductive SubR : V → Int → V → Prop
  | str {s : Str} {i k c} (h : small i = true) (hk : aIdx s.length i = some k) (hc : s.cps[k]? = some c) : SubR (.d (.str s)) i (.d (.str ⟨#[c]⟩))
  | list {o xs i k d} (hl : ListR o xs) (h : small i = true) (hk : aIdx xs.length i = some k) (hc : xs[k]? = some d) : SubR o i (.d d)
  | tuple {xs i k d} (h : small i = true) (hk : aIdx xs.length i = some k) (hc : xs[k]? = some d) : SubR (.d (.tuple xs)) i (.d d)
  | wsl {xs i k d} (h : small i = true) (hk : aIdx xs.length i = some k) (hc : xs[k]? = some d) : SubR (.wsl xs) i (.ws d)

noncomputable def sliceStr (x : Str) (l u : Option Int) : Str := ⟨((strSliceIndices l u 1 x.length).filterMap (x.cps[·]?)).toArray⟩
inductive SliceR : V → Option Int → Option Int → V → Prop
  | str {s : Str} (l u) (h : short s.length = true) : SliceR (.d (.str s)) l u (.d (.str (sliceStr s l u)))
  | tuple {xs : List PyData} {l : Int} (h1 : 1 ≤ l) (h2 : l ≤ xs.length) (h : short xs.length = true) : SliceR (.d (.tuple xs)) (some l) none (.d (.tuple (xs.drop l.toNat)))
  | list {xs : List PyData} {u : Int} (h1 : 0 ≤ u) (h : short xs.length = true) (h2 : small u = true) : SliceR (.d (.list xs)) none (some u) (.d (.list (xs.take u.toNat)))

/-- methods of texts -/
noncomputable def findIn4 (x y : Str) (a b : Int) : Int := match occurrences x y a.toNat (min b.toNat x.length) 1 with | i :: _ => (i : Int) | [] => -1
inductive MethR : V → Str → List V → V → Prop
  | join {x : Str} {ts : List Str} (h : JoinOk x ts) : MethR (.d (.str x)) (Str.ofString "join") [.d (.list (ts.map .str))] (.d (.str (Txt.join x ts)))
  | split {x y : Str} (h : short x.length = true) (h' : (y.length != 0) = true) (h2 : short (Txt.split x y).length = true) : MethR (.d (.str x)) (Str.ofString "split") [.d (.str y)] (.d (.list ((Txt.split x y).map .str)))
  | starts (x y) : MethR (.d (.str x)) (Str.ofString "startswith") [.d (.str y)] (.d (.bool (Txt.startswith x y)))
  | ends (x y) : MethR (.d (.str x)) (Str.ofString "endswith") [.d (.str y)] (.d (.bool (Txt.endswith x y)))
  | find {x y a b} (ha : 0 ≤ a) (hb : 0 ≤ b) : MethR (.d (.str x)) (Str.ofString "find") [.d (.str y), .d (.int a), .d (.int b)] (.d (.int (findIn4 x y a b)))

/-- the bindings that a target makes -/
inductive BindR : Expr → V → Rho → Prop
  | name (x p v) : BindR (.Name x p) v [(x, v)]
  | pair {x y a b p q k r} (h : (x == y) = false) : BindR (.Tuple [.Name x p, .Name y q] k r) (.d (.tuple [a, b])) [(x, .d a), (y, .d b)]

noncomputable def nameOkIn (inner : Sc) (x : Str) : Bool := inner.lookup x == some .local || inner.lookup x == some .cell
noncomputable def notOwn : V → Bool
  | .own _ => false
  | _ => true
/-- the comprehension's free names are the frame's cells -/
noncomputable def freeOk (inner outer : Sc) : Bool := inner.all fun p => p.2 != .free || outer.lookup p.1 == some .cell || outer.lookup p.1 == some .free
noncomputable def nodupN : Sc → Bool
  | [] => true
  | p :: r => (r.lookup p.1).isNone && nodupN r
noncomputable def innerRho (inner : Sc) (ρ : Rho) : Rho := ρ.filter fun p => inner.lookup p.1 == some .free
end Mine
namespace Mine
open PySem PySem.Spec PySem.Calls PySem.W PyProof.Rows
open PySem.Builtin PySem.Builtin.Str

/-! ## the fields of a Whitespace -/
abbrev WS := List Int × Int × Int × Int
noncomputable def wsGo : List Nat → WS → WS
  | [], st => st
  | c :: cs, (count, b, n, nt) =>
    if c = 32 then wsGo cs (count, b + 1, n + 1, nt)
    else if c = 9 then
      let count' := if b ≥ count.length then count ++ List.replicate (b - count.length + 1).toNat 0 else count
      wsGo cs (count'.set b.toNat (count'.getD b.toNat 0 + 1), 0, n + 1, nt + 1)
    else (count, b, n, nt)
noncomputable def wsOf (raw : Str) : WS := wsGo raw.cps.toList ([], 0, 0, 0)
noncomputable def wsFields (raw : Str) : List (Str × PyData) :=
  [("raw", .str raw), ("n", .int (wsOf raw).2.2.1), ("nt", .int (wsOf raw).2.2.2),
   ("norm", .tuple [.tuple ((wsOf raw).1.map .int), .int (wsOf raw).2.1]), ("is_simple", .bool (decide ((wsOf raw).1.length ≤ 1)))]
noncomputable def CLS : Addr := 111

structure WsAt (h : Heap) (P : Addr → Prop) (raw : Str) (v : Value) : Prop where
  ex : ∃ x ox dx od, v = .ref x ∧ h.get? x = some ox ∧ ox.cls = .ref CLS ∧ ox.data = .plain ∧ ox.dict = some dx ∧ P dx ∧ h.get? dx = some od ∧ od.cls = .type "dict" ∧
    (∀ name d, (wsFields raw).lookup name = some d → ∃ val, lookIn name od = some (some val) ∧ Rd h P d val) ∧
    (∀ name, (wsFields raw).lookup name = none → lookIn name od = some none)

inductive All2 {α β : Type} (R : α → β → Prop) : List α → List β → Prop
  | nil : All2 R [] []
  | cons {a b as bs} : R a b → All2 R as bs → All2 R (a :: as) (b :: bs)
theorem All2.imp {α β : Type} {R R' : α → β → Prop} (k : ∀ a b, R a b → R' a b) {as bs} (r : All2 R as bs) : All2 R' as bs := by
  induction r with
  | nil => exact .nil
  | cons r _ ih => exact .cons (k _ _ r) ih
theorem All2.length {α β : Type} {R : α → β → Prop} {as bs} (r : All2 R as bs) : bs.length = as.length := by
  induction r with
  | nil => rfl
  | cons _ _ ih => exact congrArg Nat.succ ih
theorem All2.get {α β : Type} {R : α → β → Prop} {as bs} (r : All2 R as bs) (i : Nat) (a : α) (e : as[i]? = some a) : ∃ b, bs[i]? = some b ∧ R a b := by
  induction r generalizing i with
  | nil => cases e
  | cons r _ ih =>
    cases i with
    | zero => cases e; exact ⟨_, rfl, r⟩
    | succ i => exact ih i e
theorem All2.append {α β : Type} {R : α → β → Prop} {as bs as' bs'} (r : All2 R as bs) (q : All2 R as' bs') : All2 R (as ++ as') (bs ++ bs') := by
  induction r with
  | nil => exact q
  | cons r _ ih => exact .cons r ih

noncomputable def RV (h : Heap) (P : Addr → Prop) : V → Value → Prop
  | .d x, v => Rd h P x v
  | .own xs, v => ∃ a vs, v = .ref a ∧ h.IsList a vs ∧ RdAll h P xs vs.toList
  | .rng a b, v => ∃ r t u w, v = .ref r ∧ IsRange h r a b 1 t u w
  | .fn f, v => v = f
  | .ws raw, v => WsAt h P raw v
  | .wsl raws, v => ∃ a vs, v = .ref a ∧ P a ∧ h.IsList a vs ∧ All2 (WsAt h P) raws vs.toList

theorem WsAt.ext {h h' : Heap} {P} {raw v} (x : Ext h h') (r : WsAt h P raw v) : WsAt h' P raw v := by
  obtain ⟨a, ox, dx, od, e, h1, h2, h3, h4, h5, h6, h7, h8, h9⟩ := r.ex
  exact ⟨a, ox, dx, od, e, x.cls h1 (by rw [h2]; exact fun e => nomatch e), h2, h3, h4, h5, x.cls h6 (by rw [h7]; exact fun e => nomatch e), h7,
    fun n d e => let ⟨v, a, b⟩ := h8 n d e; ⟨v, a, b.ext x⟩, h9⟩
theorem RV.ext {h h' : Heap} {P} (x : Ext h h') {v : V} {val : Value} (r : RV h P v val) : RV h' P v val := by
  cases v with
  | d => exact Rd.ext x r
  | own => obtain ⟨a, vs, e, l, r⟩ := r; exact ⟨a, vs, e, x.isList l, r.ext x⟩
  | rng => obtain ⟨r, t, u, w, e, k⟩ := r; exact ⟨r, t, u, w, e, x.cls k (fun e => nomatch e)⟩
  | fn => exact r
  | ws => exact WsAt.ext x r
  | wsl => obtain ⟨a, vs, e, p, l, r⟩ := r; exact ⟨a, vs, e, p, x.isList l, r.imp fun _ _ => WsAt.ext x⟩
theorem WsAt.mono {h : Heap} {P P' : Addr → Prop} {raw v} (k : ∀ a, P a → P' a) (r : WsAt h P raw v) : WsAt h P' raw v := by
  obtain ⟨a, ox, dx, od, e, h1, h2, h3, h4, h5, h6, h7, h8, h9⟩ := r.ex
  exact ⟨a, ox, dx, od, e, h1, h2, h3, h4, k _ h5, h6, h7, fun n d e => let ⟨v, a, b⟩ := h8 n d e; ⟨v, a, b.mono k⟩, h9⟩
theorem RV.mono {h : Heap} {P P' : Addr → Prop} (k : ∀ a, P a → P' a) {v : V} {val : Value} (r : RV h P v val) : RV h P' v val := by
  cases v with
  | d => exact Rd.mono k r
  | own => obtain ⟨a, vs, e, l, r⟩ := r; exact ⟨a, vs, e, l, r.mono k⟩
  | rng => exact r
  | fn => exact r
  | ws => exact WsAt.mono k r
  | wsl => obtain ⟨a, vs, e, p, l, r⟩ := r; exact ⟨a, vs, e, k _ p, l, r.imp fun _ _ => WsAt.mono k⟩

/-! ## the top, the table of codes -/
noncomputable def QLAM : Str := (("_law_asked" : Str) ++ (".<locals>." : Str)) ++ ("<lambda>" : Str)
noncomputable def TabOk (h : Heap) : Prop := ∃ vs, (h.get? TAB = some (tabObj vs) ∧ TriplesOk vs.toList) ∧ ∀ pos c, codeAmong pos vs.toList = some c → ∃ a o, c = .ref a ∧ h.get? a = some o ∧ o.cls = .type "code" ∧ h.CodeRec c QLAM
structure Good (K : Frag) (h : Heap) : Prop where
  inn : K.In h
  tab : TabOk h
theorem TabOk.keep {h h' : Heap} (t : TabOk h) (k : ∀ b o, h.get? b = some o → h'.get? b = some o) : TabOk h' := by
  obtain ⟨vs, e, r⟩ := t
  exact ⟨vs, ⟨k _ _ e.1, e.2⟩, fun pos c hc => let ⟨a, o, h1, h2, h3, h4⟩ := r pos c hc; ⟨a, o, h1, k _ _ h2, h3, h4.keeps k⟩⟩
theorem Good.keep {K : Frag} {h h' : Heap} (g : Good K h) (k : ∀ b o, h.get? b = some o → h'.get? b = some o) : Good K h' := ⟨g.inn.keeps k, g.tab.keep k⟩
theorem Good.push {K : Frag} {h : Heap} (g : Good K h) (o : Obj) : Good K (h.push o) := g.keep fun _ _ e => Heap.get?_push_of_some _ e

structure Room (l : Nat) (A : Around) : Prop where
  handled : A.handled = none
  depth : A.depth + l < 900
  units : A.units + 20 * l + 300 < cLine

noncomputable def FreshOk (P : Addr → Prop) (h : Heap) : Prop := ∀ a, h.get? a = none → P a
theorem FreshOk.ext {P : Addr → Prop} {h h' : Heap} (f : FreshOk P h) (x : Ext h h') : FreshOk P h' := fun a e => f a (x.none e)

abbrev Out (K : Frag) (P : Addr → Prop) (v : V) (s : Shared) (Q : Value → Shared → Prop) : Prop :=
  ∀ h' tk val, Ext s.heap h' → Good K h' → RV h' P v val → Q val { s with heap := h', toks := tk }
abbrev OutB (K : Frag) (b : Bool) (s : Shared) (Q : Bool → Shared → Prop) : Prop :=
  ∀ h' tk, Ext s.heap h' → Good K h' → Q b { s with heap := h', toks := tk }

section
variable {w : World} {A : Around} {E : Value → Shared → Prop} {s : Shared} {K : Frag} {P : Addr → Prop}

theorem short_le {n : Nat} (h : short n = true) : n ≤ 1000000 := Nat.le_of_ble_eq_true h
theorem short_line {n : Nat} (h : short n = true) : n ≤ sizeLine := Nat.le_trans (short_le h) (by decide)
theorem small_iff {i : Int} (h : small i = true) : -1073741824 < i ∧ i < 1073741824 := by
  unfold small at h
  rw [Bool.and_eq_true] at h
  exact ⟨of_decide_eq_true h.1, of_decide_eq_true h.2⟩

theorem Out.here {v : V} {val : Value} {Q : Value → Shared → Prop} {tk : Nat} (o : Out K P v s Q) (g : Good K s.heap) (r : RV s.heap P v val) : Q val { s with toks := tk } := o s.heap tk val (Ext.refl _) g r
theorem OutB.here {b : Bool} {Q : Bool → Shared → Prop} {tk : Nat} (o : OutB K b s Q) (g : Good K s.heap) : Q b { s with toks := tk } := o s.heap tk (Ext.refl _) g

theorem truth_sound {v : V} {val : Value} {b : Bool} {Q : Bool → Shared → Prop} (e : TruthR v b) (g : Good K s.heap) (r : RV s.heap P v val) (o : OutB K b s Q) :
    wpAny (model prog w) A (truthy val) Q E s := by
  cases e with
  | bool => rw [Rd.bool_inv r]; exact wpAny_truthy_bool (o.here (tk := s.toks) g)
  | @str x hx =>
    obtain ⟨t, rfl⟩ := Rd.str_inv r
    have := short_le hx
    refine PySem.P.truthy_str (by omega) ?_
    have e2 : ((x.length : Int) != 0) = (x.length != 0) := by
      rw [Bool.eq_iff_iff]; simp
    rw [e2]; exact o.here g
  | @tuple xs hx =>
    obtain ⟨a, vs, rfl, ht, hr⟩ := Rd.tuple_inv r
    have hn := hr.size
    refine truthy_tuple ht (by have := short_le hx; omega) ?_
    have e2 : (!vs.isEmpty) = (!xs.isEmpty) := by
      congr 1
      rw [Bool.eq_iff_iff, Array.isEmpty_iff_size_eq_zero, List.isEmpty_iff_length_eq_zero, hn]
    rw [e2]; exact o.here g
end
end Mine
namespace Mine
open PySem PySem.Spec PySem.Calls PySem.W PyProof.Rows
open PySem.Builtin PySem.Builtin.Str

section
variable {w : World} {A : Around} {E : Value → Shared → Prop} {s : Shared} {K : Frag} {P : Addr → Prop}

theorem fits_small {x : Int} (h : small x = true) : -(2^63) < x ∧ x < 2^63 := by
  have := small_iff h; omega

theorem mulOk {x y : Int} (hx : small x = true) : IntMulOk x y := by
  have := small_iff hx
  exact .of_left (intBits_le_64 (by omega) (by omega))
theorem noPylong {x y : Int} (hy : small y = true) : ¬ (Builtin.divisionGoesByPylong x y) = true := by
  have := small_iff hy
  rw [PyProof.noPylong_small (by omega)]; exact Bool.false_ne_true

theorem list_inv {v : V} {val : Value} {xs : List PyData} (e : ListR v xs) (r : RV s.heap P v val) : ∃ a vs, val = .ref a ∧ s.heap.IsList a vs ∧ RdAll s.heap P xs vs.toList := by
  cases e with
  | d => obtain ⟨a, vs, h1, _, h2, h3⟩ := Rd.list_inv r; exact ⟨a, vs, h1, h2, h3⟩
  | own => exact r

theorem new_list {xs : List PyData} {vs : Array Value} (f : FreshOk P s.heap) (r : RdAll s.heap P xs vs.toList) :
    RV (s.heap.push { cls := .type "list", data := .seq vs }) P (.d (.list xs)) (.ref s.heap.objs.size) :=
  Rd.list (vs := vs) ⟨_, Heap.get?_push_size _ rfl, rfl, _, rfl⟩ (f _ (fresh_none _)) (r.ext (.of_keep fun _ _ e => Heap.get?_push_of_some _ e))
theorem new_tuple {xs : List PyData} {vs : Array Value} (r : RdAll s.heap P xs vs.toList) :
    RV (s.heap.push { cls := .type "tuple", data := .seq vs }) P (.d (.tuple xs)) (.ref s.heap.objs.size) :=
  Rd.tuple (vs := vs) ⟨_, Heap.get?_push_size _ rfl, rfl, _, rfl⟩ (r.ext (.of_keep fun _ _ e => Heap.get?_push_of_some _ e))
theorem ext_push (h : Heap) (o : Obj) : Ext h (h.push o) := .of_keep fun _ _ e => Heap.get?_push_of_some _ e

theorem Out.pushed {v : V} {val : Value} {o : Obj} {tk : Nat} {Q : Value → Shared → Prop} (k : Out K P v s Q) (g : Good K s.heap) (r : RV (s.heap.push o) P v val) : Q val { s with heap := s.heap.push o, toks := tk } :=
  k _ tk val (ext_push _ _) (g.push _) r

theorem bin_add_lists {a b : V} {va vb : Value} {xs ys : List PyData} {Q : Value → Shared → Prop} (ha : ListR a xs) (hb : ListR b ys) (hx : short xs.length = true) (hy : short ys.length = true)
    (g : Good K s.heap) (f : FreshOk P s.heap) (ra : RV s.heap P a va) (rb : RV s.heap P b vb) (o : Out K P (.d (.list (xs ++ ys))) s Q) : wpAny (model prog w) A (binaryOp .Add va vb) Q E s := by
  obtain ⟨l, vs, rfl, hl, r1⟩ := list_inv ha ra
  obtain ⟨l', ws, rfl, hl', r2⟩ := list_inv hb rb
  obtain ⟨⟨cls, dd, data, sl⟩, ho, hc, n, hd⟩ := id hl
  obtain ⟨⟨cls2, dd2, data2, sl2⟩, ho2, hc2, n2, hd2⟩ := id hl'
  simp only at hc hd hc2 hd2
  subst hc hd hc2 hd2
  have h1 := short_le hx
  have h2 := short_le hy
  have e1 : vs.size = xs.length := by simpa using r1.length
  have e2 : ws.size = ys.length := by simpa using r2.length
  refine concat_meets ⟨_, ho, rfl⟩ ⟨_, ho2, rfl⟩ noFill_list_add seq_list_add PySem.F.slot_list_add PySem.F.entry_list_add (PySem.F.args_list_add_2 _ _) (list_addW l l' vs ws n n2 dd dd2 sl sl2 (by show _ ≤ 2 ^ 24; omega)) ⟨ho, ho2, ?_⟩
  exact o.pushed g (new_list f (by simpa using r1.append r2))

theorem flat_one {α : Type} (x : α) : ∀ n : Nat, List.foldl (fun (x1 x2 : Array α) => x1 ++ x2) #[] (List.replicate n #[x]) = (List.replicate n x).toArray := by
  have key : ∀ (n : Nat) (acc : Array α), List.foldl (fun (x1 x2 : Array α) => x1 ++ x2) acc (List.replicate n #[x]) = acc ++ (List.replicate n x).toArray := by
    intro n
    induction n with
    | zero => intro acc; simp
    | succ n ih =>
      intro acc
      rw [List.replicate_succ, List.foldl_cons, ih, List.replicate_succ, Array.append_assoc]
      congr 1
      simp
  intro n
  rw [key]; simp
theorem RdAll.replicate {h : Heap} {d v} (r : Rd h P d v) (n : Nat) : RdAll h P (List.replicate n d) (List.replicate n v) := by
  induction n with
  | zero => exact RdAll.nil
  | succ n ih => exact RdAll.cons r ih

theorem add_nil_l {x y : Str} (h : (x.length == 0) = true) : x ++ y = y := by
  apply Str.ext'
  have : x.cps = #[] := Array.eq_empty_of_size_eq_zero (eq_of_beq h)
  rw [Str.cps_append, this, Array.empty_append]
theorem add_nil_r {x y : Str} (h : (y.length == 0) = true) : x ++ y = x := by
  apply Str.ext'
  have : y.cps = #[] := Array.eq_empty_of_size_eq_zero (eq_of_beq h)
  rw [Str.cps_append, this, Array.append_empty]
theorem bin_sound {op : Operator} {a b r : V} {va vb : Value} {Q : Value → Shared → Prop} (e : BinR op a b r) (g : Good K s.heap) (f : FreshOk P s.heap)
    (ra : RV s.heap P a va) (rb : RV s.heap P b vb) (o : Out K P r s Q) : wpAny (model prog w) A (binaryOp op va vb) Q E s := by
  cases e with
  | addI =>
    obtain ⟨t, rfl⟩ := Rd.int_inv ra; obtain ⟨u, rfl⟩ := Rd.int_inv rb
    exact wpAny_add_int (o.here g (Rd.int _ _))
  | subI =>
    obtain ⟨t, rfl⟩ := Rd.int_inv ra; obtain ⟨u, rfl⟩ := Rd.int_inv rb
    exact AutoIntOps.sub_0 (o.here g (Rd.int _ _))
  | mulI h =>
    obtain ⟨t, rfl⟩ := Rd.int_inv ra; obtain ⟨u, rfl⟩ := Rd.int_inv rb
    exact AutoIntOps.mul_0 (o.here g (Rd.int _ _)) (mulOk h)
  | divI h h' =>
    obtain ⟨t, rfl⟩ := Rd.int_inv ra; obtain ⟨u, rfl⟩ := Rd.int_inv rb
    exact AutoIntOps.floordiv_1 (by simpa using h') (noPylong h) (o.here g (Rd.int _ _))
  | modI h' =>
    obtain ⟨t, rfl⟩ := Rd.int_inv ra; obtain ⟨u, rfl⟩ := Rd.int_inv rb
    exact AutoIntOps.mod_1 (by simpa using h') (o.here g (Rd.int _ _))
  | @addS x y h h' =>
    obtain ⟨t, rfl⟩ := Rd.str_inv ra; obtain ⟨u, rfl⟩ := Rd.str_inv rb
    refine PySem.P.add_str ?_
    split
    · rename_i hx
      rw [add_nil_l hx] at o
      exact o.here (tk := s.toks) g (Rd.str _ _)
    · split
      · rename_i hy
        rw [add_nil_r hy] at o
        exact o.here (tk := s.toks) g (Rd.str _ _)
      · exact ⟨by rw [Str.length_append]; exact Nat.le_trans (Nat.add_le_add (short_le h) (short_le h')) (by decide), o.here g (Rd.str _ _)⟩
  | @rep d y h h' =>
    have h1 := small_iff h
    have h2 := short_le h'
    obtain ⟨l, vs, rfl, _, hl, r1⟩ := Rd.list_inv ra
    obtain ⟨u, rfl⟩ := Rd.int_inv rb
    obtain ⟨v, vs', e1, r2, r3⟩ := RdAll.cons_inv r1
    have e2 := r3.nil_inv
    subst e2
    have e3 : vs = #[v] := Array.ext' e1
    subst e3
    obtain ⟨⟨cls, dd, data, sl⟩, ho, hc, k, hd⟩ := id hl
    simp only at hc hd
    subst hc hd
    refine wpAny_binaryOp_repeat_ref (T := "list") (U := "int") (by decide) ⟨_, ho, rfl⟩ (fun s' => typeIs_int s' y u) noFill_list_mul PySem.F.fills_int_mul PySem.F.slot_int_rmul repeat_list PySem.F.slot_int_index.lookup
      (call_meets PySem.F.slot_int_rmul (typeIs_int s y u) PySem.F.entry_int_rmul (PySem.F.args_int_rmul_2 _ _) (lm_int_rmul_list_any y u l #[v] k dd sl)
        ⟨ho, rfl, ⟨_, ho, rfl⟩, call_meets PySem.F.slot_list_mul ⟨_, ho, rfl⟩ PySem.F.entry_list_mul (PySem.F.args_list_mul_2 _ _)
          (lm_list_mul_any l #[v] k dd sl y u (by simp [Builtin.List.listFitsIndex]; omega) (by simp; omega) (by simp [Builtin.List.listTooLong, sizeLine]; omega)) ⟨ho, ?_⟩⟩)
    have e4 : (if (#[v] : Array Value).isEmpty = true then 0 else y.toNat) = y.toNat := if_neg (fun e => nomatch e)
    rw [e4, flat_one]
    exact o.pushed g (new_list f (RdAll.replicate r2 _))
  | addL ha hb h h' => exact bin_add_lists ha hb h h' g f ra rb o

theorem shaped_of {x : PyData} (q : eqOk x = true) : PySem.SeqAt.shaped x = true := by
  unfold eqOk at q; unfold PySem.SeqAt.shaped
  rw [Bool.and_eq_true] at q ⊢
  exact ⟨q.1, decide_eq_true (Nat.le_of_ble_eq_true q.2)⟩
theorem cmp_sound {op : CmpOp} {a b : V} {va vb : Value} {r : Bool} {Q : Value → Shared → Prop} (e : CmpR op a b r) (g : Good K s.heap) (ro : A.units + 64 < cLine)
    (ra : RV s.heap P a va) (rb : RV s.heap P b vb) (o : ∀ tk, Q (.bool r) { s with toks := tk }) : wpAny (model prog w) A (compareOp op va vb) Q E s := by
  cases e with
  | gt =>
    obtain ⟨t, rfl⟩ := Rd.int_inv ra; obtain ⟨u, rfl⟩ := Rd.int_inv rb
    exact PySem.P.gt_int (o s.toks)
  | lt =>
    obtain ⟨t, rfl⟩ := Rd.int_inv ra; obtain ⟨u, rfl⟩ := Rd.int_inv rb
    exact wpAny_lt_int (o s.toks)
  | ge =>
    obtain ⟨t, rfl⟩ := Rd.int_inv ra; obtain ⟨u, rfl⟩ := Rd.int_inv rb
    exact PySem.P.ge_int (o s.toks)
  | le =>
    obtain ⟨t, rfl⟩ := Rd.int_inv ra; obtain ⟨u, rfl⟩ := Rd.int_inv rb
    exact PySem.P.le_int (o s.toks)
  | eq h h' =>
    obtain ⟨as, ra, _⟩ := ra
    obtain ⟨bs, rb, _⟩ := rb
    exact PySem.SeqAt.compareEq_shaped ra rb (shaped_of h) (shaped_of h') ro (o s.toks)
  | ne h h' =>
    obtain ⟨as, ra, _⟩ := ra
    obtain ⟨bs, rb, _⟩ := rb
    exact PySem.SeqAt.compareNe_shaped ra rb (shaped_of h) (shaped_of h') ro (o s.toks)
  | is x y =>
    rw [Rd.bool_inv ra, Rd.bool_inv rb]
    refine wpAny_is_plain rfl ?_
    have : ((Value.bool x == Value.bool y)) = (x == y) := by cases x <;> cases y <;> rfl
    rw [this]; exact o s.toks
  | notIn =>
    obtain ⟨t, rfl⟩ := Rd.str_inv ra; obtain ⟨u, rfl⟩ := Rd.str_inv rb
    refine PySem.P.notIn_str ?_
    rw [Bool.not_not]; exact o s.toks
end
end Mine
namespace Mine
open PySem PySem.Spec PySem.Calls PySem.W PyProof.Rows
open PySem.Builtin PySem.Builtin.Str

section
variable {w : World} {A : Around} {E : Value → Shared → Prop} {s : Shared} {K : Frag} {P : Addr → Prop} {env : Env}

noncomputable def HasItem (s : Shared) (o : Value) : Prop := ∃ T id, s.TypeIs o T ∧ typeLookup (.type T) "__getitem__" = pure (some (.builtin id))

theorem wpAny_SubscriptG {value slice : Expr} {pos : Pos} {Q : Value → Shared → Prop}
    (h : wpAny (model prog w) A (eval value env) (fun o s₁ => wpAny (model prog w) A (eval slice env) (fun i s₂ => HasItem s₂ o ∧ wpAny (model prog w) A (getItem o i) Q E s₂) E s₁) E s) :
    wpAny (model prog w) A (eval (.Subscript value slice pos) env) Q E s := by
  rw [eval_Subscript]
  refine wpAny_bind (wpAny_mono h (fun o s₁ h₁ => wpAny_bind (wpAny_holding (wpAny_mono h₁ (fun i s₂ h₂ => wpAny_bind (wpAny_standAt ?_)) fun _ _ x => x))) fun _ _ x => x)
  obtain ⟨⟨T, id, hT, hl⟩, h₃⟩ := h₂
  refine wpAny_bind ?_
  rw [getitemInPython_of_ne hT.not_modules]
  refine wpAny_bind (wpAny_specialOf hT hl (wpAny_pure ?_))
  have fin : ∀ vs, wpAny (model prog w) A (operate vs (getItem o i)) (fun r s₃ => wpAny (model prog w) A (letTemporaryGo value o r >>= fun _ => pure r) Q E s₃) E s₂ := fun vs =>
    wpAny_operating (wpAny_mono h₃ (fun r s₃ h₄ => wpAny_bind (wpAny_letTemporaryGo (wpAny_pure h₄))) fun _ _ x => x)
  have e : ∃ vs, subscripted slice false o i = operate vs (getItem o i) := by
    unfold subscripted
    split
    · exact ⟨_, rfl⟩
    · contradiction
    · exact ⟨_, rfl⟩
  obtain ⟨vs, e⟩ := e
  rw [e]
  exact wpAny_bind (fin vs)

theorem idx_seq {n k : Nat} {i : Int} (h : aIdx n i = some k) : seqIndex? i n = some k ∧ k < n := by
  unfold aIdx at h
  unfold seqIndex?
  split at h
  · cases h
    rename_i q
    refine ⟨?_, by omega⟩
    have h1 : ¬ i < 0 := by omega
    simp only [h1, if_false]
    rw [if_pos (by simp; omega)]
  · split at h
    · cases h
      rename_i q
      refine ⟨?_, by omega⟩
      have h1 : i < 0 := by omega
      simp only [h1, if_true]
      rw [if_pos (by simp; omega)]
    · cases h

theorem hasItem_list {a : Addr} {vs} (h : s.heap.IsList a vs) : HasItem s (.ref a) := ⟨_, _, h.typeIs, slot_list_getitem.lookup⟩
theorem hasItem_tuple {a : Addr} {vs} (h : s.heap.IsTuple a vs) : HasItem s (.ref a) := ⟨_, _, h.typeIs, PySem.F.slot_tuple_getitem.lookup⟩
theorem hasItem_str {x : Str} {t : Tok} : HasItem s (.str x t) := ⟨_, _, typeIs_str s x t, PySem.F.slot_str_getitem.lookup⟩

theorem getItem_listI {l : Addr} {vs : Array Value} {i : Int} {t : Tok} {k : Nat} {x : Value} {Q : Value → Shared → Prop} (hl : s.heap.IsList l vs) (hi : small i = true) (e : aIdx vs.size i = some k) (hx : vs[k]? = some x) (h : Q x s) :
    wpAny (model prog w) A (getItem (.ref l) (.int i t)) Q E s := by
  have hs := small_iff hi
  unfold aIdx at e
  split at e
  · cases e
    exact wpAny_getItem_list hl (by omega) (by omega) hx h
  · split at e
    · cases e
      exact wpAny_getItem_list_neg hl (by omega) (by omega) (by omega) hx h
    · cases e

theorem sub_sound {a r : V} {i : Int} {va : Value} {u : Tok} {Q : Value → Shared → Prop} (e : SubR a i r) (g : Good K s.heap)
    (ra : RV s.heap P a va) (o : Out K P r s Q) : HasItem s va ∧ wpAny (model prog w) A (getItem va (.int i u)) Q E s := by
  cases e with
  | @str x _ k c hi hk hc =>
    obtain ⟨t, rfl⟩ := Rd.str_inv ra
    have hs := small_iff hi
    refine ⟨hasItem_str, PySem.P.getItem_str (c := c) (by simp; omega) ?_ (o.here g (Rd.str _ _))⟩
    rw [(idx_seq hk).1]; exact hc
  | @list _ xs _ k d hl hi hk hc =>
    obtain ⟨l, vs, rfl, hl, r1⟩ := list_inv hl ra
    obtain ⟨v, hv, rv⟩ := r1.get k _ hc
    exact ⟨hasItem_list hl, getItem_listI hl hi (r1.size ▸ hk) (Array.getElem?_toList.symm.trans hv) (o.here (tk := s.toks) g rv)⟩
  | @tuple xs _ k d hi hk hc =>
    obtain ⟨l, vs, rfl, hl, r1⟩ := Rd.tuple_inv ra
    obtain ⟨v, hv, rv⟩ := r1.get k _ hc
    have hn := r1.size
    have hs := small_iff hi
    exact ⟨hasItem_tuple hl, PyProof.Rows.getItem_tuple hl (by omega) (by omega) (by rw [hn]; exact (idx_seq hk).1) (Array.getElem?_toList.symm.trans hv) (o.here (tk := s.toks) g rv)⟩
  | @wsl xs _ k d hi hk hc =>
    obtain ⟨l, vs, rfl, _, hl, r1⟩ := ra
    obtain ⟨v, hv, rv⟩ := r1.get k _ hc
    have hn : vs.size = xs.length := r1.length
    exact ⟨hasItem_list hl, getItem_listI hl hi (hn ▸ hk) (Array.getElem?_toList.symm.trans hv) (o.here (tk := s.toks) g rv)⟩

/-- what a slice's part is -/
inductive PartIs : Option Int → Value → Prop
  | none : PartIs none .none
  | some (i t) : PartIs (some i) (.int i t)

noncomputable def clipN (n : Nat) (v : Option Int) (dflt : Nat) : Nat := match v with
  | none => dflt
  | some i => (max 0 (min (if i < 0 then i + n else i) n)).toNat
theorem clipN_le {n : Nat} {v : Option Int} {d : Nat} (h : d ≤ n) : clipN n v d ≤ n := by
  unfold clipN
  split
  · exact h
  · omega
theorem strIdx_eq (l u : Option Int) (n : Nat) : strSliceIndices l u 1 n = (List.range (clipN n u n - clipN n l 0)).map (clipN n l 0 + ·) := by
  rw [← sliceRange_one]
  unfold strSliceIndices
  have e1 : (match l with | none => (if (1 : Int) > 0 then (0 : Int) else (n : Int) - 1) | some i => if (1 : Int) > 0 then max 0 (min (if i < 0 then i + (n : Int) else i) (n : Int)) else max (-1) (min (if i < 0 then i + (n : Int) else i) ((n : Int) - 1))) = ((clipN n l 0 : Nat) : Int) := by
    unfold clipN
    cases l with
    | none => simp
    | some i => simp only [gt_iff_lt, Int.zero_lt_one, if_true]; omega
  have e2 : (match u with | none => (if (1 : Int) > 0 then (n : Int) else -1) | some i => if (1 : Int) > 0 then max 0 (min (if i < 0 then i + (n : Int) else i) (n : Int)) else max (-1) (min (if i < 0 then i + (n : Int) else i) ((n : Int) - 1))) = ((clipN n u n : Nat) : Int) := by
    unfold clipN
    cases u with
    | none => simp
    | some i => simp only [gt_iff_lt, Int.zero_lt_one, if_true]; omega
  rw [← e1, ← e2]
  cases l <;> cases u <;> rfl
theorem sliceStr_eq (x : Str) (l u : Option Int) : sliceStr x l u = ⟨((x.cps.toList.drop (clipN x.length l 0)).take (clipN x.length u x.length - clipN x.length l 0)).toArray⟩ := by
  unfold sliceStr
  rw [strIdx_eq, pick_run]
theorem sliceStr_all {x : Str} {l u : Option Int} (h : (strSliceIndices l u 1 x.length).length = x.length) : sliceStr x l u = x := by
  rw [sliceStr_eq]
  rw [strIdx_eq, List.length_map, List.length_range] at h
  have h1 : clipN x.length u x.length ≤ x.length := clipN_le (Nat.le_refl _)
  apply Str.ext'
  apply Array.ext'
  show (x.cps.toList.drop _).take _ = _
  by_cases hn : x.length = 0
  · have : x.cps.toList = [] := by
      have : x.cps.size = 0 := hn
      simpa using this
    rw [this]; simp
  · have h2 : clipN x.length l 0 = 0 := by omega
    have h3 : clipN x.length u x.length = x.length := by omega
    rw [h2, h3, List.drop_zero, List.take_of_length_le (by show x.cps.toList.length ≤ x.cps.size - 0; simp)]
theorem sliceStr_len (x : Str) (l u : Option Int) : (sliceStr x l u).length ≤ x.length := by
  rw [sliceStr_eq]
  show Array.size _ ≤ _
  rw [List.size_toArray, List.length_take]
  have h1 : clipN x.length u x.length ≤ x.length := clipN_le (Nat.le_refl _)
  omega

theorem part_of {l : Option Int} {vl : Value} (pl : PartIs l vl) : ∃ l' : Option (Int × Tok), vl = partValue l' ∧ l'.map (·.1) = l := by
  cases pl with
  | none => exact ⟨none, rfl, rfl⟩
  | some i t => exact ⟨some (i, t), rfl, rfl⟩
theorem slice_sound {o r : V} {l u : Option Int} {vo vl vu : Value} {Q : Value → Shared → Prop} (e : SliceR o l u r) (g : Good K s.heap) (f : FreshOk P s.heap) (ro : RV s.heap P o vo) (pl : PartIs l vl) (pu : PartIs u vu)
    (k : Out K P r s Q) : HasItem { s with heap := s.heap.push { cls := .type "slice", data := .fields #[vl, vu, .none] } } vo ∧
      wpAny (model prog w) A (getItem vo (.ref s.heap.objs.size)) Q E { s with heap := s.heap.push { cls := .type "slice", data := .fields #[vl, vu, .none] } } := by
  have x := ext_push s.heap { cls := .type "slice", data := .fields #[vl, vu, .none] }
  have g' := g.push { cls := .type "slice", data := .fields #[vl, vu, .none] }
  cases e with
  | @str y _ _ hy =>
    obtain ⟨t, rfl⟩ := Rd.str_inv ro
    refine ⟨hasItem_str, ?_⟩
    obtain ⟨l', rfl, hl'⟩ := part_of pl
    obtain ⟨u', rfl, hu'⟩ := part_of pu
    refine wpAny_getItem_str_slice (l := l') (u := u') (st := none) ⟨_, Heap.get?_push_size _ rfl, rfl, rfl⟩ rfl ?_
    unfold sliceMade
    have hp : slicePicked y l' u' none = strSliceIndices l u 1 y.length := by unfold slicePicked; rw [hl', hu']; rfl
    rw [hp]
    split
    · rename_i hq
      rw [Bool.and_eq_true] at hq
      rw [sliceStr_all (eq_of_beq hq.2)] at k
      exact k _ s.toks _ x g' (Rd.str _ _)
    · exact ⟨Nat.le_trans (sliceStr_len y l u) (short_line hy), k _ _ _ x g' (Rd.str _ _)⟩
  | @tuple xs l h1 h2 h =>
    have hs := short_le h
    obtain ⟨a, vs, rfl, ht, hr⟩ := Rd.tuple_inv ro
    have hn := hr.size
    cases pl with
    | some _ t =>
    cases pu with
    | none =>
    refine ⟨hasItem_tuple (x.isTuple ht), ?_⟩
    obtain ⟨j, rfl⟩ := Int.eq_ofNat_of_zero_le (Int.le_trans (by decide) h1)
    refine PyProof.Rows.getItem_tuple_from (a := j) (u := t) (x.isTuple ht) (Heap.IsSliceOf.new _ _ _ _) (Int.ofNat_le.mp h1) (hn ▸ Int.ofNat_le.mp h2) ?_ (by show _ ≤ 2 ^ 24; omega)
    refine k _ s.toks _ (x.push _) (g'.push _) ?_
    refine new_tuple (s := { s with heap := s.heap.push { cls := .type "slice", data := .fields #[.int (j : Int) t, .none, .none] } }) ?_
    exact (hr.ext x).drop j
  | @list xs u h1 h h2 =>
    have hs := short_le h
    have hu := small_iff h2
    obtain ⟨a, vs, rfl, _, hl, hr⟩ := Rd.list_inv ro
    have hn := hr.size
    cases pl with
    | none =>
    cases pu with
    | some _ t =>
    refine ⟨hasItem_list (x.isList hl), ?_⟩
    obtain ⟨j, rfl⟩ := Int.eq_ofNat_of_zero_le h1
    refine wpAny_getItem_list_slice (x.isList hl) (Heap.IsSliceOf.new _ _ _ _) .none (.int _ _) .none (by simp) ?_ (by show _ ≤ 2 ^ 24; omega)
    rw [slicePick_upto']
    refine k _ s.toks _ (x.push _) (g'.push _) ?_
    refine new_list (s := { s with heap := s.heap.push { cls := .type "slice", data := .fields #[.none, .int (j : Int) t, .none] } }) (f.ext x) ?_
    exact (hr.ext x).take j
end
end Mine
namespace Mine
open PySem PySem.Spec PySem.Calls PySem.W PyProof.Rows
open PySem.Builtin PySem.Builtin.Str

abbrev GLB : Addr := 3

structure EnvOk (env : Env) (sc : Sc) : Prop where
  kind : env.scope.kind = .function
  globals : env.globals = GLB
  builtins : env.builtins = builtinsNs
  glob : ∀ x, sc.lookup x = some .globalImplicit → env.kindOf x = some .globalImplicit
  cell : ∀ x, sc.lookup x = some .cell ∨ sc.lookup x = some .free → (env.kindOf x = some .cell ∨ env.kindOf x = some .free) ∧ ∃ c, env.cells.lookup x = some c

def NameIs (env : Env) (h : Heap) (x : Str) (val : Value) : Prop :=
  (env.kindOf x = some .local ∧ ∃ m, h.Ns env.locals m ∧ m x = some val) ∨
  ((env.kindOf x = some .cell ∨ env.kindOf x = some .free) ∧ ∃ c o, env.cells.lookup x = some c ∧ h.get? c = some o ∧ o.cls = .type "cell" ∧ o.data = .cell (some val))
theorem NameIs.ext {env : Env} {h h' : Heap} {x : Str} {val : Value} (e : Ext h h') (n : NameIs env h x val) : NameIs env h' x val := by
  rcases n with ⟨k, m, hn, hv⟩ | ⟨k, c, o, h1, h2, h3, h4⟩
  · exact .inl ⟨k, m, e.ns hn, hv⟩
  · exact .inr ⟨k, c, o, h1, e.cls h2 (by rw [h3]; exact fun e => nomatch e), h3, h4⟩

def EnvRel (env : Env) (ρ : Rho) (h : Heap) (P : Addr → Prop) : Prop := ∀ x v, ρ.lookup x = some v → ∃ val, NameIs env h x val ∧ RV h P v val
theorem EnvRel.ext {env : Env} {ρ : Rho} {h h' : Heap} {P : Addr → Prop} (e : Ext h h') (r : EnvRel env ρ h P) : EnvRel env ρ h' P :=
  fun x v q => let ⟨val, a, b⟩ := r x v q; ⟨val, a.ext e, b.ext e⟩

def GlobIs (h : Heap) (x : Str) (val : Value) : Prop := ∃ mg mb, h.Ns GLB mg ∧ h.Ns builtinsNs mb ∧ (mg x = some val ∨ (mg x = none ∧ mb x = some val))

section
variable (w : World) (K : Frag) (l : Nat)
structure CallOk (f : V) (vs : List V) (r : V) : Prop where
  keeper : ∀ (A : Around) (s : Shared) (P : Addr → Prop) (Q : Keeper → Shared → Prop) (E : Value → Shared → Prop) fv, Good K s.heap → RV s.heap P f fv → (∀ k, Q k s) → wpAny (model prog w) A (keeperOf fv) Q E s
  call : ∀ (A : Around) (s : Shared) (P : Addr → Prop) (Q : Value → Shared → Prop) (E : Value → Shared → Prop) fv vals, Room l A → Good K s.heap → FreshOk P s.heap → RV s.heap P f fv → All2 (RV s.heap P) vs vals →
    Out K P r s Q → wpAny (model prog w) A (PySem.call fv vals) Q E s
/-- a method of a Whitespace: the def that it is, and its call -/
def MethOk (o : V) (name : Str) (vs : List V) (r : V) : Prop :=
  ∃ f : V, CallOk w K l f (o :: vs) r ∧ ∀ (A : Around) (s : Shared) (P : Addr → Prop) (Q : Value × List Value → Shared → Prop) (E : Value → Shared → Prop) (pl : Sem Bool) ov, Good K s.heap → RV s.heap P o ov →
    (∀ fv, RV s.heap P f fv → Q (fv, [ov]) s) → wpAny (model prog w) A (getMethod ov name pl) Q E s
def AttrOk (o : V) (name : Str) (r : V) : Prop :=
  ∀ (A : Around) (s : Shared) (P : Addr → Prop) (Q : Value → Shared → Prop) (E : Value → Shared → Prop) ov (b : Bool), Good K s.heap → RV s.heap P o ov → Out K P r s Q → wpAny (model prog w) A (getAttr ov name b) Q E s
def GlobOk (x : Str) (v : V) : Prop := ∀ h, Good K h → ∃ val, GlobIs h x val ∧ ∀ P, RV h P v val

/-- an expression gives a value -/
def Ev (sc : Sc) (ρ : Rho) (e : Expr) (v : V) : Prop := ∀ (A : Around) (s : Shared) (P : Addr → Prop) (Q : Value → Shared → Prop) (E : Value → Shared → Prop) (env : Env), Room l A → Good K s.heap → FreshOk P s.heap → EnvOk env sc → EnvRel env ρ s.heap P →
  Out K P v s Q → wpAny (model prog w) A (eval e env) Q E s
/-- a test is true or false -/
def Tv (sc : Sc) (ρ : Rho) (e : Expr) (b : Bool) : Prop := ∀ (A : Around) (s : Shared) (P : Addr → Prop) (Q : Bool → Shared → Prop) (E : Value → Shared → Prop) (env : Env), Room l A → Good K s.heap → FreshOk P s.heap → EnvOk env sc → EnvRel env ρ s.heap P →
  OutB K b s Q → wpAny (model prog w) A (isTrue e env (eval e env)) Q E s
def NotStar (e : Expr) : Prop := ∀ rest env, starEach (e :: rest) env = (false, eval e env) :: starEach rest env
inductive ArgsR (sc : Sc) (ρ : Rho) : List Expr → List V → Prop
  | nil : ArgsR sc ρ [] []
  | cons {e v r vs} (hs : NotStar e) (h : Ev w K l sc ρ e v) (q : ArgsR sc ρ r vs) : ArgsR sc ρ (e :: r) (v :: vs)
end

section
variable {w : World} {K : Frag} {A : Around} {s : Shared} {P : Addr → Prop} {E : Value → Shared → Prop} {env : Env} {sc : Sc} {ρ : Rho} {l : Nat}

theorem load_name {x : Str} {val : Value} {Q : Value → Shared → Prop} (ok : EnvOk env sc) (n : NameIs env s.heap x val) (hx : (x == ("__classdict__" : Str)) = false) (h : Q val s) : wpAny (model prog w) A (loadName env x) Q E s := by
  rcases n with ⟨k, m, hn, hv⟩ | ⟨k, c, o, h1, h2, h3, h4⟩
  · exact wpAny_loadName_local ok.kind k hn hv h
  · have hcell : wpAny (model prog w) A (cellOf env x >>= fun a => cellGet a) (fun r s' => r = some val ∧ s' = s) E s := by
      unfold cellOf cellGet
      rw [h1]
      refine wpAny_bind (wpAny_pure (wpAny_bind (wpAny_load h2 ?_)))
      rw [h4]; exact wpAny_pure ⟨rfl, rfl⟩
    unfold loadName
    rcases k with k | k
    · simp only [Env.blockKind, ok.kind, ScopeKind.isAnnotationScope, Bool.false_and, Bool.false_eq_true, if_false, k]
      unfold cellOf cellGet
      rw [h1]
      refine wpAny_bind (wpAny_pure (wpAny_bind (wpAny_bind (wpAny_load h2 ?_))))
      rw [h4]; exact wpAny_pure (wpAny_pure h)
    · simp only [Env.blockKind, ok.kind, ScopeKind.isAnnotationScope, Bool.false_and, Bool.false_eq_true, if_false, k, hx]
      unfold cellOf cellGet
      rw [h1]
      refine wpAny_bind (wpAny_pure (wpAny_bind (wpAny_bind (wpAny_load h2 ?_))))
      rw [h4]; exact wpAny_pure (wpAny_pure h)

theorem load_glob {x : Str} {val : Value} {Q : Value → Shared → Prop} (ok : EnvOk env sc) (hg : sc.lookup x = some .globalImplicit) (n : GlobIs s.heap x val) (h : Q val s) : wpAny (model prog w) A (loadName env x) Q E s := by
  obtain ⟨mg, mb, n1, n2, hv⟩ := n
  have hk := ok.glob x hg
  unfold loadName
  simp only [Env.blockKind, ok.kind, hk, ScopeKind.isAnnotationScope, Bool.false_and, Bool.false_eq_true, if_false]
  rcases hv with hv | ⟨hm, hv⟩
  · exact loadGlobal_global (by rw [ok.globals]; exact n1) hv h
  · exact loadGlobal_builtin (by rw [ok.globals]; exact n1) hm (by rw [ok.builtins]; exact n2) hv h

/-- the values of a row of expressions -/
theorem args_sound {pos : Pos} {args : List Expr} {vs : List V} (e : ArgsR w K l sc ρ args vs) (ro : Room l A) (ok : EnvOk env sc) : ∀ {s : Shared} {Q : List Value → Shared → Prop}, Good K s.heap → FreshOk P s.heap → EnvRel env ρ s.heap P →
    (∀ h' tk vals, Ext s.heap h' → Good K h' → All2 (RV h' P) vs vals → Q vals { s with heap := h', toks := tk }) → wpAny (model prog w) A (spliced (backTo pos (starEach args env))) Q E s := by
  induction e with
  | nil => exact fun {s Q} g f er o => wpAny_items_nil (o s.heap s.toks [] (Ext.refl _) g .nil)
  | cons hs h _ ih =>
    intro s Q g f er o
    refine wpAny_items_cons (h A s P _ E env ro g f ok er fun h' tk val x1 g1 r1 => ?_) (hs _ _)
    exact ih g1 (f.ext x1) (er.ext x1) fun h'' tk' vals x2 g2 r2 => o h'' tk' (val :: vals) (x1.trans x2) g2 (.cons (r1.ext x2) r2)
theorem noStar {pos : Pos} {args : List Expr} {vs : List V} (e : ArgsR w K l sc ρ args vs) : (backTo pos (starEach args env)).any (·.1) = false := by
  induction e with
  | nil => rfl
  | cons hs _ _ ih => rw [hs]; exact ih
theorem ArgsR.length {args : List Expr} {vs : List V} (e : ArgsR w K l sc ρ args vs) : vs.length = args.length := by
  induction e with
  | nil => rfl
  | cons _ _ _ ih => exact congrArg Nat.succ ih
end
end Mine
namespace Mine
open PySem PySem.Spec PySem.Calls PySem.W PyProof.Rows
open PySem.Builtin PySem.Builtin.Str

section
variable {w : World} {K : Frag} {A : Around} {s : Shared} {P : Addr → Prop} {E : Value → Shared → Prop} {env : Env} {sc : Sc} {ρ : Rho} {l : Nat}

theorem evalArgs_gen {M : Model} {f : Value} {args : List (Bool × Sem Value)} {Q : Args → Shared → Prop} (hs : args.any (·.1) = false)
    (h : wpAny M A (spliced args) (fun vs s' => Q ⟨vs, []⟩ s') E s) : wpAny M A (evalArgs f true args []) Q E s := by
  cases args with
  | nil =>
    unfold evalArgs
    show wpAny M A (spliced [] >>= _) Q E s
    refine wpAny_bind (wpAny_mono h (fun vs s' h' => ?_) fun _ _ x => x)
    refine wpAny_holding ?_
    exact wpAny_bind (wpAny_pure (wpAny_bind (wpAny_pure (wpAny_pure h'))))
  | cons x rest =>
    obtain ⟨b, x⟩ := x
    have hb : b = false := by
      cases b with
      | false => rfl
      | true => simp at hs
    subst hb
    exact evalArgs_plain h

theorem callWith_gen {M : Model} {pos : Pos} {fv : Value} {first : List Value} {args : List (Bool × Sem Value)} {Q : Value → Shared → Prop} (hs : args.any (·.1) = false)
    (h : wpAny M A (spliced args) (fun vs s₁ => (∀ Q' : Keeper → Shared → Prop, (∀ k, Q' k s₁) → wpAny M A (keeperOf fv) Q' E s₁) ∧ wpAny M A (PySem.call fv (first ++ vs) []) Q E s₁) E s) :
    wpAny M A (callWith pos fv first args []) Q E s := by
  unfold callWith
  refine wpAny_bind (wpAny_holding (evalArgs_gen hs (wpAny_mono h (fun vs s₁ h₁ => wpAny_bind (wpAny_standAt ?_)) fun _ _ x => x)))
  have tail : ∀ {t : Sem Value}, wpAny M A t Q E s₁ → wpAny M A (t >>= fun r => holding [r] point >>= fun _ => pure r) Q E s₁ :=
    fun ht => wpAny_bind (wpAny_mono ht (fun r s₂ hr => wpAny_bind (wpAny_holding (wpAny_point (wpAny_pure hr)))) fun _ _ x => x)
  simp only [hs, List.any_nil, Bool.or_false]
  refine wpAny_bind (h₁.1 _ fun k => ?_)
  cases k with
  | frame =>
    dsimp only
    refine wpAny_ite ?_
    split
    · exact tail h₁.2
    · exact tail (by unfold callMarked; exact wpAny_keep h₁.2)
  | boundFrame =>
    dsimp only
    refine wpAny_ite ?_
    split
    · exact tail h₁.2
    · exact tail (by unfold callMarked; exact wpAny_keep h₁.2)
  | machine => exact tail h₁.2
  | caller => exact tail (wpAny_operating h₁.2)

theorem methodForm {pos : Pos} {args : List Expr} {vs : List V} {n : Nat} (h : ArgsR w K l sc ρ args vs) (hn : n < 30) : methodCallForm n (backTo pos (starEach args env)) [] = true := by
  have := noStar (pos := pos) (env := env) h
  unfold methodCallForm
  rw [Bool.and_eq_true, Bool.and_eq_true]
  refine ⟨⟨List.all_eq_true.mpr fun x hx => ?_, rfl⟩, decide_eq_true hn⟩
  have := List.any_eq_false.mp this x hx
  simpa using this

theorem attr_call_open {o : Expr} {name : Str} {apos pos : Pos} {args : List Expr} {vs : List V} {Q : Value → Shared → Prop} (hv : ArgsR w K l sc ρ args vs) (hb : ∀ whole, attributeBase o name env whole = whole) (hp : (apos.endLine == pos.line) = true) (hn : Nat.ble args.length 20 = true)
    (h : wpAny (model prog w) A (eval o env) (fun ov s₁ => ∀ pl, wpAny (model prog w) A (getMethod ov name pl) (fun p s₂ => wpAny (model prog w) A (callWith pos p.1 p.2 (backTo pos (starEach args env)) []) Q E s₂) E s₁) E s) :
    wpAny (model prog w) A (eval (.Call (.Attribute o name apos) args [] pos) env) Q E s := by
  rw [arm_eval_Call, hb]
  refine wpAny_bind (wpAny_mono h (fun ov s₁ h₁ => wpAny_bind (wpAny_standAt ?_)) fun _ _ x => x)
  unfold methodCall
  have hf := methodForm (pos := pos) (env := env) hv (n := args.length + ([] : List Keyword).length) (Nat.lt_of_le_of_lt (Nat.le_of_ble_eq_true hn) (by decide))
  rw [show (backToKw pos (keywordEach [] env)) = [] from rfl, hf]
  refine wpAny_bind (wpAny_holding ?_)
  show wpAny _ _ (getMethod ov name _) _ _ _
  refine wpAny_mono (h₁ _) (fun p s₂ h₂ => ?_) fun _ _ x => x
  refine wpAny_bind ?_
  unfold methodCallPos
  rw [hp]
  exact wpAny_pure h₂

/-- a builtin method: how it is found, how it is called -/
def MethB (w : World) (K : Frag) (v : V) (name : Str) (vs : List V) (r : V) : Prop := ∃ id : String, (∀ (A : Around) (s : Shared) (P : Addr → Prop) (Q : Value × List Value → Shared → Prop) (E : Value → Shared → Prop) (pl : Sem Bool) ov, RV s.heap P v ov → Q (.builtin id, [ov]) s →
      wpAny (model prog w) A (getMethod ov name pl) Q E s) ∧
    ∀ (A : Around) (s : Shared) (P : Addr → Prop) (Q : Value → Shared → Prop) (E : Value → Shared → Prop) ov vals, Good K s.heap → FreshOk P s.heap → RV s.heap P v ov → All2 (RV s.heap P) vs vals → Out K P r s Q →
      wpAny (model prog w) A (PySem.call (.builtin id) (ov :: vals)) Q E s
theorem strs_read {h : Heap} {ts : List Str} {us : List Value} (r : RdAll h P (ts.map .str) us) : ∃ ls : List (Str × Tok), us = strValues ls ∧ ls.map (·.1) = ts := by
  induction ts generalizing us with
  | nil => rw [r.nil_inv]; exact ⟨[], rfl, rfl⟩
  | cons z ts ih =>
    obtain ⟨u, us', rfl, r1, r2⟩ := r.cons_inv
    obtain ⟨ls, rfl, rfl⟩ := ih r2
    obtain ⟨t, rfl⟩ := Rd.str_inv r1
    exact ⟨(z, t) :: ls, rfl, rfl⟩
theorem rd_strs {h : Heap} (l : List (Str × Tok)) : RdAll h P ((l.map (·.1)).map .str) (strValues l) := by
  induction l with
  | nil => exact RdAll.nil
  | cons p l ih => exact RdAll.cons (Rd.str _ _) ih
theorem split_call {x y : Str} {t u : Tok} {Q : Value → Shared → Prop} (g : Good K s.heap) (f : FreshOk P s.heap) (h1 : short x.length = true) (h2 : (y.length != 0) = true) (h3 : short (Txt.split x y).length = true) (o : Out K P (.d (.list ((Txt.split x y).map .str))) s Q) :
    wpAny (model prog w) A (PySem.call (.builtin "str.split") [.str x t, .str y u]) Q E s := by
  have hx := short_le h1
  have hy : (y.length == 0) = false := by simpa using h2
  have fin : ∀ (l : List (Str × Tok)) (tk : Nat), l.map (·.1) = Txt.split x y → Q (.ref s.heap.objs.size) { s with heap := s.heap.push { cls := .type "list", data := .seq (strValues l).toArray }, toks := tk } := by
    intro l tk hl
    refine o.pushed g (new_list f ?_)
    rw [← hl]; exact rd_strs l
  cases h1 : (decide (x.length < y.length) || decide (strKind x < strKind y))
  · cases hf : (occurrences x y 0 x.length (x.length + 1)).isEmpty
    · have hsp : Txt.split x y = partsBetween x (occurrences x y 0 x.length (x.length + 1)) y.length := (if_neg (ne_true_of_eq_false h1)).trans (if_neg (ne_true_of_eq_false hf))
      refine call_meets PySem.F.slot_str_split (typeIs_str _ _ _) PySem.F.entry_str_split (PySem.F.args_str_split_2 _ _) (meets_str_split_sep x y t u h1 hy hf (by show _ ≤ 2 ^ 24; omega) (by rw [← hsp]; exact short_line h3)) ?_
      show wants Q E _ { s with toks := _, heap := s.heap.push { cls := .type "list", data := .seq (strsFrom s.toks (partsBetween x (occurrences x y 0 x.length (x.length + 1)) y.length)).toArray } }
      rw [strsFrom_eq]
      exact fin (numbered s.toks _) _ ((numbered_texts _ _).trans hsp.symm)
    · exact call_meets PySem.F.slot_str_split (typeIs_str _ _ _) PySem.F.entry_str_split (PySem.F.args_str_split_2 _ _) (meets_str_split_not_found x y t u h1 hy hf)
        (fin [(x, t)] _ ((if_neg (ne_true_of_eq_false h1)).trans (if_pos hf)).symm)
  · exact call_meets PySem.F.slot_str_split (typeIs_str _ _ _) PySem.F.entry_str_split (PySem.F.args_str_split_2 _ _) (meets_str_split_cannot_occur x y t u h1)
      (fin [(x, t)] _ (if_pos h1).symm)
theorem find_gives {x y : Str} {t u u2 u3 : Tok} {a b : Int} (ha : 0 ≤ a) (hb : 0 ≤ b) : Gives («str.find» ⟨[.str x t, .str y u, .int a u2, .int b u3], []⟩) (.int (findIn4 x y a b)) := by
  have e : ∀ a : Int, 0 ≤ a → max 0 (if a < 0 then a + (x.length : Int) else a) = a := fun a ha => by rw [if_neg (Int.not_lt.mpr ha)]; exact Int.max_eq_right ha
  show Gives (match occurrences x y (max 0 (if a < 0 then a + (x.length : Int) else a)).toNat (min (max 0 (if b < 0 then b + (x.length : Int) else b)).toNat x.length) 1 with | k :: _ => retInt k | [] => (do rule "str.find.not-found"; retInt (-1))) _
  rw [e a ha, e b hb]
  unfold findIn4
  cases occurrences x y a.toNat (min b.toNat x.length) 1 with
  | nil => exact .rule (.of_eq rfl)
  | cons k _ => exact .of_eq rfl
theorem meth_sound {v r : V} {name : Str} {vs : List V} (e : MethR v name vs r) : MethB w K v name vs r := by
  cases e with
  | @join x ts hj =>
    refine ⟨"str.join", fun A s P Q E pl ov ro h => ?_, fun A s P Q E ov vals g f ro ra o => ?_⟩
    · obtain ⟨t, rfl⟩ := Rd.str_inv ro
      with_reducible exact GM.join h
    · obtain ⟨t, rfl⟩ := Rd.str_inv ro
      cases ra with
      | cons r1 r2 =>
      cases r2
      obtain ⟨a, vs, rfl, _, hl, hr⟩ := Rd.list_inv r1
      obtain ⟨ls, h1, h2⟩ := strs_read hr
      refine SC.join (l := ls) (by rw [← h1]; exact hl) h2 hj fun t' k => ?_
      exact o.here g (Rd.str _ _)
  | @split x y h h' h2 =>
    refine ⟨"str.split", fun A s P Q E pl ov ro h => ?_, fun A s P Q E ov vals g f ro ra o => ?_⟩
    · obtain ⟨t, rfl⟩ := Rd.str_inv ro
      with_reducible exact GM.split h
    · obtain ⟨t, rfl⟩ := Rd.str_inv ro
      cases ra with
      | cons r1 r2 =>
      cases r2
      obtain ⟨u, rfl⟩ := Rd.str_inv r1
      exact split_call g f h h' h2 o
  | starts x y =>
    refine ⟨"str.startswith", fun A s P Q E pl ov ro h => ?_, fun A s P Q E ov vals g f ro ra o => ?_⟩
    · obtain ⟨t, rfl⟩ := Rd.str_inv ro
      with_reducible exact GM.startswith h
    · obtain ⟨t, rfl⟩ := Rd.str_inv ro
      cases ra with
      | cons r1 r2 =>
      cases r2
      obtain ⟨u, rfl⟩ := Rd.str_inv r1
      exact SC.startswith (o.here (tk := s.toks) g (Rd.bool _))
  | ends x y =>
    refine ⟨"str.endswith", fun A s P Q E pl ov ro h => ?_, fun A s P Q E ov vals g f ro ra o => ?_⟩
    · obtain ⟨t, rfl⟩ := Rd.str_inv ro
      with_reducible exact GM.endswith h
    · obtain ⟨t, rfl⟩ := Rd.str_inv ro
      cases ra with
      | cons r1 r2 =>
      cases r2
      obtain ⟨u, rfl⟩ := Rd.str_inv r1
      exact SC.endswith (o.here (tk := s.toks) g (Rd.bool _))
  | @find x y a b ha hb =>
    refine ⟨"str.find", fun A s P Q E pl ov ro h => ?_, fun A s P Q E ov vals g f ro ra o => ?_⟩
    · obtain ⟨t, rfl⟩ := Rd.str_inv ro
      with_reducible exact GM.find h
    · obtain ⟨t, rfl⟩ := Rd.str_inv ro
      cases ra with
      | cons r1 r2 =>
      cases r2 with
      | cons r2 r3 =>
      cases r3 with
      | cons r3 r4 =>
      cases r4
      obtain ⟨u, rfl⟩ := Rd.str_inv r1
      obtain ⟨u2, rfl⟩ := Rd.int_inv r2
      obtain ⟨u3, rfl⟩ := Rd.int_inv r3
      exact call_gives PySem.F.slot_str_find (typeIs_str _ _ _) PySem.F.entry_str_find (PySem.F.args_str_find_4 _ _ _ _) (find_gives ha hb) (o.here g (Rd.int _ _))
end
end Mine
namespace Mine
open PySem PySem.Spec PySem.Calls PySem.W PyProof.Rows
open PySem.Builtin PySem.Builtin.Str

/-! ## changes of objects that no datum shows -/
structure Mut (o : Obj) : Prop where
  tup : ¬ isTup o
  rng : o.cls = .type "range" → ∀ vs, o.data ≠ .fields vs
  code : o.cls = .type "code" → ∀ vs, o.data ≠ .fields vs
  tab : ∀ vs, o ≠ tabObj vs
  plain : o.data ≠ .plain
theorem Mut.dict {o : Obj} {es n} (h : o.data = .dict es n) : Mut o where
  tup := fun ⟨_, _, _, e⟩ => by rw [h] at e; cases e
  rng := fun _ _ e => by rw [h] at e; cases e
  code := fun _ _ e => by rw [h] at e; cases e
  tab := fun _ e => by rw [e] at h; cases h
  plain := fun e => by rw [h] at e; cases e
theorem Mut.ofCell {o : Obj} {v} (h : o.data = .cell v) : Mut o where
  tup := fun ⟨_, _, _, e⟩ => by rw [h] at e; cases e
  rng := fun _ _ e => by rw [h] at e; cases e
  code := fun _ _ e => by rw [h] at e; cases e
  tab := fun _ e => by rw [e] at h; cases h
  plain := fun e => by rw [h] at e; cases e
theorem Mut.iter {o : Obj} {T : String} {vs} (hc : o.cls = .type T) (h : o.data = .fields vs) (h1 : T ≠ "range") (h2 : T ≠ "code") : Mut o where
  tup := fun ⟨_, _, _, e⟩ => by rw [h] at e; cases e
  rng := fun e => by rw [hc] at e; cases e; exact absurd rfl h1
  code := fun e => by rw [hc] at e; cases e; exact absurd rfl h2
  tab := fun _ e => by rw [e] at hc; cases hc
  plain := fun e => by rw [h] at e; cases e
theorem Mut.list {o : Obj} {vs n} (hc : o.cls = .type "list") (h : o.data = .seq vs n) : Mut o where
  tup := fun ⟨e, _⟩ => by rw [hc] at e; simp at e
  rng := fun _ _ e => by rw [h] at e; cases e
  code := fun _ _ e => by rw [h] at e; cases e
  tab := fun _ e => by rw [e] at h; cases h
  plain := fun e => by rw [h] at e; cases e

abbrev Chg (X : Addr → Prop) (h h' : Heap) : Prop := ∀ b o, ¬ X b → h.get? b = some o → h'.get? b = some o

section
variable {h h' : Heap} {P X : Addr → Prop}
/-- what may lie in X -/
noncomputable def Loose (h : Heap) (P X : Addr → Prop) : Prop := ∀ b o, X b → h.get? b = some o → ¬ P b ∧ Mut o
theorem Loose.rd (x : Loose h P X) : ∀ b o, X b → h.get? b = some o → ¬ P b ∧ ¬ isTup o := fun b o m e => ⟨(x b o m e).1, (x b o m e).2.tup⟩
theorem WsAt.chg {raw v} (k : Chg X h h') (x : Loose h P X) (r : WsAt h P raw v) : WsAt h' P raw v := by
  obtain ⟨a, ox, dx, od, e, h1, h2, h3, h4, h5, h6, h7, h8, h9⟩ := r.ex
  exact ⟨a, ox, dx, od, e, k _ _ (fun m => (x _ _ m h1).2.plain h3) h1, h2, h3, h4, h5, k _ _ (fun m => (x _ _ m h6).1 h5) h6, h7,
    fun n d e => let ⟨v, a, b⟩ := h8 n d e; ⟨v, a, b.chg k x.rd⟩, h9⟩
/-- no list is among what changes -/
theorem RV.chgL (k : Chg X h h') (x : Loose h P X) {v : V} {val : Value} (hl : notOwn v = true ∨ ∀ b o, X b → h.get? b = some o → ∀ vs n, o.data ≠ .seq vs n) (r : RV h P v val) : RV h' P v val := by
  cases v with
  | d => exact Rd.chg k x.rd r
  | own =>
    obtain ⟨a, vs, e, ⟨o, ho, hc, n, hd⟩, r⟩ := r
    exact ⟨a, vs, e, ⟨o, k _ _ (fun m => hl.elim (fun e => nomatch e) fun hl => hl _ _ m ho _ _ hd) ho, hc, n, hd⟩, r.chg k x.rd⟩
  | rng => obtain ⟨r, t, u, w, e, q⟩ := r; exact ⟨r, t, u, w, e, k _ _ (fun m => (x _ _ m q).2.rng rfl _ rfl) q⟩
  | fn => exact r
  | ws => exact WsAt.chg k x r
  | wsl => obtain ⟨a, vs, e, p, ⟨o, ho, q⟩, r⟩ := r; exact ⟨a, vs, e, p, ⟨o, k _ _ (fun m => (x _ _ m ho).1 p) ho, q⟩, r.imp fun _ _ => WsAt.chg k x⟩
theorem RV.chg (k : Chg X h h') (x : Loose h P X) (hl : ∀ b o, X b → h.get? b = some o → ∀ vs n, o.data ≠ .seq vs n) {v : V} {val : Value} (r : RV h P v val) : RV h' P v val := RV.chgL k x (.inr hl) r
theorem RV.chg' (k : Chg X h h') (x : Loose h P X) {v : V} {val : Value} (hn : notOwn v = true) (r : RV h P v val) : RV h' P v val := RV.chgL k x (.inl hn) r
theorem TabOk.chg (k : Chg X h h') (x : ∀ b o, X b → h.get? b = some o → Mut o) (t : TabOk h) : TabOk h' := by
  obtain ⟨vs, e, r⟩ := t
  refine ⟨vs, ⟨k _ _ (fun m => (x _ _ m e.1).tab _ rfl) e.1, e.2⟩, fun pos c hc => ?_⟩
  obtain ⟨a, o, h1, h2, h3, h4⟩ := r pos c hc
  obtain ⟨c', o', vs', t', e1, e2, e3, e4⟩ := h4
  rw [h1] at e1; cases e1
  rw [h2] at e2; cases e2
  have z := k _ _ (fun m => (x _ _ m h2).code h3 _ e3) h2
  exact ⟨a, o, h1, z, h3, a, o, vs', t', h1, z, e3, e4⟩
theorem Good.chg {K : Frag} (k : Chg X h h') (x : ∀ b o, X b → h.get? b = some o → Mut o) (hK : ∀ b, X b → K.lookup b = none) (g : Good K h) : Good K h' :=
  ⟨fun a o e => k _ _ (fun m => by rw [hK a m] at e; cases e) (g.inn a o e), g.tab.chg k x⟩
/-- the old heap stays: what changes is not in it -/
theorem Ext.chg {h₀ : Heap} (e : Ext h₀ h) (k : Chg X h h') (hX : ∀ b, X b → h₀.get? b = Option.none) : Ext h₀ h' := by
  intro b o q
  have hn : ¬ X b := fun m => by rw [hX b m] at q; cases q
  rcases e b o q with z | ⟨z1, vs, more, z2, z3⟩
  · exact .inl (k _ _ hn z)
  · exact .inr ⟨z1, vs, more, z2, k _ _ hn z3⟩
end
theorem lookup_none_of_fresh {K : Frag} {h : Heap} (x : K.In h) {a : Addr} (e : h.get? a = none) : K.lookup a = none := by
  cases q : K.lookup a with
  | none => rfl
  | some o => rw [x a o q] at e; cases e

/-! ## a frame: its names and what they hold -/
structure FrameAt (env : Env) (N : Str → Prop) (h : Heap) (f : Str → Option Value) : Prop where
  kind : env.scope.kind = .function
  kinds : ∀ x, N x → env.kindOf x = some .local ∨ env.kindOf x = some .cell
  ns : ∃ m, h.Ns env.locals m ∧ ∀ x, N x → env.kindOf x = some .local → m x = f x
  cell : ∀ x, N x → env.kindOf x = some .cell → ∃ c o, env.cells.lookup x = some c ∧ h.get? c = some o ∧ o.cls = .type "cell" ∧ o.data = .cell (f x)
  inj : ∀ x y c, N x → N y → env.kindOf x = some .cell → env.kindOf y = some .cell → env.cells.lookup x = some c → env.cells.lookup y = some c → x = y
noncomputable def Mu (env : Env) (N : Str → Prop) (a : Addr) : Prop := a = env.locals ∨ ∃ x, N x ∧ env.kindOf x = some .cell ∧ env.cells.lookup x = some a
section
variable {env : Env} {N : Str → Prop} {h h' : Heap} {f : Str → Option Value}
theorem FrameAt.mu (F : FrameAt env N h f) {a : Addr} (m : Mu env N a) : ∃ o, h.get? a = some o ∧ Mut o ∧ ∀ vs n, o.data ≠ .seq vs n := by
  rcases m with rfl | ⟨x, hn, hk, hc⟩
  · obtain ⟨m, ⟨o, es, ep, ho, hd, _⟩, _⟩ := F.ns
    exact ⟨o, ho, .dict hd, fun _ _ e => by rw [hd] at e; cases e⟩
  · obtain ⟨c, o, h1, h2, h3, h4⟩ := F.cell x hn hk
    rw [hc] at h1; cases h1
    exact ⟨o, h2, .ofCell h4, fun _ _ e => by rw [h4] at e; cases e⟩
theorem FrameAt.ext (F : FrameAt env N h f) (e : Ext h h') : FrameAt env N h' f :=
  ⟨F.kind, F.kinds, let ⟨m, a, b⟩ := F.ns; ⟨m, e.ns a, b⟩, fun x hn hk => let ⟨c, o, h1, h2, h3, h4⟩ := F.cell x hn hk; ⟨c, o, h1, e.cls h2 (by rw [h3]; exact fun e => nomatch e), h3, h4⟩, F.inj⟩
theorem FrameAt.chg {X : Addr → Prop} (F : FrameAt env N h f) (k : Chg X h h') (hX : ∀ a, Mu env N a → ¬ X a) : FrameAt env N h' f := by
  refine ⟨F.kind, F.kinds, ?_, fun x hn hk => ?_, F.inj⟩
  · obtain ⟨m, ⟨o, es, ep, ho, r⟩, b⟩ := F.ns
    exact ⟨m, ⟨o, es, ep, k _ _ (hX _ (.inl rfl)) ho, r⟩, b⟩
  · obtain ⟨c, o, h1, h2, h3, h4⟩ := F.cell x hn hk
    exact ⟨c, o, h1, k _ _ (hX _ (.inr ⟨x, hn, hk, h1⟩)) h2, h3, h4⟩
theorem FrameAt.nameIs (F : FrameAt env N h f) {x : Str} {val : Value} (hn : N x) (hv : f x = some val) : NameIs env h x val := by
  rcases F.kinds x hn with k | k
  · obtain ⟨m, a, b⟩ := F.ns
    exact .inl ⟨k, m, a, (b x hn k).trans hv⟩
  · obtain ⟨c, o, h1, h2, h3, h4⟩ := F.cell x hn k
    exact .inr ⟨.inl k, c, o, h1, h2, h3, by rw [h4, hv]⟩
end
section
variable {M : Model} {A : Around} {E : Value → Shared → Prop} {s : Shared} {env : Env} {N : Str → Prop} {f : Str → Option Value}
theorem store_frame {x : Str} {v : Value} {Q : Unit → Shared → Prop} (F : FrameAt env N s.heap f) (hn : N x)
    (hQ : ∀ h' tk, FrameAt env N h' (fun y => if y = x then some v else f y) → Chg (Mu env N) s.heap h' → Q () { s with heap := h', toks := tk }) : wpAny M A (storeName env x v) Q E s := by
  have hp : (env.scope.kind == .class || (env.scope.kind == .module && env.locals != env.globals)) = false := by rw [F.kind]; rfl
  rcases F.kinds x hn with k | k
  · obtain ⟨m, hm, hmf⟩ := F.ns
    refine wpAny_storeName_local k hm (fun h' hn' hs' => ?_) hp
    refine hQ h' _ ⟨F.kind, F.kinds, ⟨_, hn', fun y hy hk => ?_⟩, fun y hy hk => ?_, F.inj⟩ fun b o hb e => (hs'.2 b fun q => hb (.inl q)).trans e
    · show (if y = x then some v else m y) = if y = x then some v else f y
      rw [hmf y hy hk]
    · obtain ⟨c, o, h1, h2, h3, h4⟩ := F.cell y hy hk
      have ne : y ≠ x := fun q => by rw [q, k] at hk; cases hk
      refine ⟨c, o, h1, (hs'.2 c fun q => ?_).trans h2, h3, by rw [h4, if_neg ne]⟩
      obtain ⟨o', es, ep, ho', hd', _⟩ := hm
      rw [q, ho'] at h2; cases h2
      rw [hd'] at h4; cases h4
  · obtain ⟨c, o, h1, h2, h3, h4⟩ := F.cell x hn k
    have hk' : (some NameKind.cell == some NameKind.globalImplicit) = false := rfl
    unfold storeName
    simp only [k, hk', Bool.false_and, Bool.false_eq_true, if_false]
    have hcls : (env.scope.kind == .class) = false := by rw [F.kind]; rfl
    simp only [hcls, Bool.false_and, Bool.false_eq_true, if_false]
    unfold cellOf cellSet
    rw [h1]
    refine wpAny_bind (wpAny_pure (wpAny_bind (wpAny_load h2 ?_)))
    rw [h4]
    refine wpAny_update h2 ?_
    have hf : ({ o with data := .cell (some v) } : Obj).isFreed = false := rfl
    have hs := Heap.SameBut.update s.heap c (fun o => { o with data := .cell (some v) })
    refine hQ _ s.toks ⟨F.kind, F.kinds, ?_, fun y hy hk => ?_, F.inj⟩ fun b o' hb e => (hs.2 b fun q => hb (.inr ⟨x, hn, k, q ▸ h1⟩)).trans e
    · obtain ⟨m, ⟨o', es, ep, ho', hd', r⟩, hmf⟩ := F.ns
      refine ⟨m, ⟨o', es, ep, (hs.2 _ fun q => ?_).trans ho', hd', r⟩, fun y hy hk => ?_⟩
      · rw [q, h2] at ho'; cases ho'; rw [h4] at hd'; cases hd'
      · have ne : y ≠ x := fun q => by rw [q, k] at hk; cases hk
        rw [if_neg ne]; exact hmf y hy hk
    · obtain ⟨c', o', g1, g2, g3, g4⟩ := F.cell y hy hk
      by_cases hyx : y = x
      · subst hyx
        rw [h1] at g1; cases g1
        refine ⟨c, _, h1, Heap.get?_update_self _ h2 hf, h3, by rw [if_pos rfl]⟩
      · refine ⟨c', o', g1, (hs.2 c' fun q => ?_).trans g2, g3, by rw [g4, if_neg hyx]⟩
        subst q
        exact hyx (F.inj y x _ hy hn hk k g1 h1)
end
end Mine
namespace Mine
open PySem PySem.Spec PySem.Calls PySem.W PyProof.Rows
open PySem.Builtin PySem.Builtin.Str

theorem lookup_mem {β : Type} {l : List (Str × β)} {x : Str} {b : β} (h : l.lookup x = some b) : (x, b) ∈ l := by
  induction l with
  | nil => cases h
  | cons p l ih =>
    obtain ⟨y, c⟩ := p
    rw [List.lookup_cons] at h
    split at h
    · rename_i q
      cases h
      have : x = y := by simpa using q
      subst this; exact List.mem_cons_self ..
    · exact List.mem_cons_of_mem _ (ih h)
theorem lookup_none_mem {β : Type} {l : List (Str × β)} {x : Str} (h : l.lookup x = none) : ∀ b, (x, b) ∉ l := by
  induction l with
  | nil => intro b m; cases m
  | cons p l ih =>
    obtain ⟨y, c⟩ := p
    rw [List.lookup_cons] at h
    split at h
    · cases h
    · rename_i q
      intro b m
      rcases List.mem_cons.mp m with e | m
      · cases e; simp at q
      · exact ih h b m

/-- names of the block's own -/
noncomputable def OwnName (scope : Scope) (x : Str) : Prop := scope.names.lookup x = some .local ∨ scope.names.lookup x = some .cell

section
variable {M : Model} {A : Around} {E : Value → Shared → Prop} {s : Shared}

/-- the cells that a block makes -/
structure CellsAt (scope : Scope) (done : Sc) (closure cells : List (Str × Addr)) (h₀ h : Heap) (L : Addr) : Prop where
  here : ∀ x, (x, NameKind.cell) ∈ done → ∃ c, cells.lookup x = some c ∧ h.get? c = some { cls := .type "cell", data := .cell none } ∧ h₀.get? c = none ∧ c ≠ L
  else_ : ∀ x, (x, NameKind.cell) ∉ done → cells.lookup x = closure.lookup x
  inj : ∀ x y c, (x, NameKind.cell) ∈ done → (y, NameKind.cell) ∈ done → cells.lookup x = some c → cells.lookup y = some c → x = y

theorem cells_loop {scope : Scope} {closure : List (Str × Addr)} {L : Addr} {lo : Obj} {Q : List (Str × Addr) → Shared → Prop} {s₀ : Shared}
    (hlo : lo.isFreed = false) (hL : s₀.heap.objs.size = L)
    (hQ : ∀ cells h', CellsAt scope scope.names closure cells s₀.heap h' L → h'.get? L = some lo → (∀ b o, s₀.heap.get? b = some o → h'.get? b = some o) → Q cells { s₀ with heap := h' }) :
    wpAny M A (forIn scope.names closure fun x cells => match x with
      | (name, kind) => if (kind == NameKind.cell) = true then do
          let a ← alloc { cls := .type "cell", data := .cell none }
          pure (ForInStep.yield ((name, a) :: cells))
        else pure (ForInStep.yield cells)) Q E { s₀ with heap := s₀.heap.push lo } := by
  refine wpAny_forIn_list _ (fun rest cells s' => ∃ done h', scope.names = done ++ rest ∧ s' = { s₀ with heap := h' } ∧ CellsAt scope done closure cells s₀.heap h' L ∧ h'.get? L = some lo ∧
    (∀ b o, s₀.heap.get? b = some o → h'.get? b = some o)) Q ?_ ?_ scope.names closure
    ⟨[], _, rfl, rfl, ⟨fun _ m => (nomatch m), fun _ _ => rfl, fun _ _ _ m => (nomatch m)⟩, by rw [← hL]; exact Heap.get?_push_size _ hlo, fun _ _ e => Heap.get?_push_of_some _ e⟩
  · rintro ⟨name, kind⟩ rest cells s' ⟨done, h', hd, rfl, C, hl, hk⟩
    dsimp only
    by_cases hc : kind = .cell
    · subst hc
      simp only [beq_self_eq_true, if_true]
      refine wpAny_bind (wpAny_alloc (wpAny_pure ⟨done ++ [(name, .cell)], _, by simp [hd], rfl, ?_, Heap.get?_push_of_some _ hl, fun b o e => Heap.get?_push_of_some _ (hk b o e)⟩))
      have hsz : L < h'.objs.size := Heap.lt_size hl
      refine ⟨fun x m => ?_, fun x m => ?_, fun x y c mx my hx hy => ?_⟩
      · by_cases hx : x = name
        · subst hx
          refine ⟨h'.objs.size, by simp [List.lookup_cons], Heap.get?_push_size _ rfl, ?_, Nat.ne_of_gt hsz⟩
          cases e : s₀.heap.get? h'.objs.size with
          | none => rfl
          | some o => exact absurd (Heap.lt_size (hk _ _ e)) (Nat.lt_irrefl _)
        · have m' : (x, NameKind.cell) ∈ done := by
            rcases List.mem_append.mp m with m | m
            · exact m
            · simp at m; exact absurd m hx
          obtain ⟨c, h1, h2, h3, h4⟩ := C.here x m'
          have : (x == name) = false := by simpa using hx
          exact ⟨c, by rw [List.lookup_cons, this]; exact h1, Heap.get?_push_of_some _ h2, h3, h4⟩
      · have hx : x ≠ name := fun e => m (by rw [e]; simp)
        have : (x == name) = false := by simpa using hx
        rw [List.lookup_cons, this]
        exact C.else_ x fun m' => m (List.mem_append_left _ m')
      · have key : ∀ z, (z, NameKind.cell) ∈ done ++ [(name, NameKind.cell)] → z ≠ name → (z, NameKind.cell) ∈ done := fun z m hz => by
          rcases List.mem_append.mp m with m | m
          · exact m
          · simp at m; exact absurd m hz
        have low : ∀ z c, z ≠ name → (z, NameKind.cell) ∈ done → cells.lookup z = some c → c ≠ h'.objs.size := fun z c _ m e => by
          obtain ⟨c', h1, h2, _⟩ := C.here z m
          rw [e] at h1; cases h1
          exact Nat.ne_of_lt (Heap.lt_size h2)
        by_cases ex : x = name
        · by_cases ey : y = name
          · rw [ex, ey]
          · exfalso
            subst ex
            simp [List.lookup_cons] at hx
            have : (y == x) = false := by simpa using ey
            rw [List.lookup_cons, this] at hy
            exact low y c ey (key y my ey) hy hx.symm
        · by_cases ey : y = name
          · exfalso
            subst ey
            simp [List.lookup_cons] at hy
            have : (x == y) = false := by simpa using ex
            rw [List.lookup_cons, this] at hx
            exact low x c ex (key x mx ex) hx hy.symm
          · have e1 : (x == name) = false := by simpa using ex
            have e2 : (y == name) = false := by simpa using ey
            rw [List.lookup_cons, e1] at hx
            rw [List.lookup_cons, e2] at hy
            exact C.inj x y c (key x mx ex) (key y my ey) hx hy
    · have hb : (kind == NameKind.cell) = false := by simpa using hc
      simp only [hb, Bool.false_eq_true, if_false]
      refine wpAny_pure ⟨done ++ [(name, kind)], h', by simp [hd], rfl, ⟨fun x m => ?_, fun x m => ?_, fun x y c mx my hx hy => ?_⟩, hl, hk⟩
      · refine C.here x ?_
        rcases List.mem_append.mp m with m | m
        · exact m
        · simp at m; exact absurd m.2.symm hc
      · exact C.else_ x fun m' => m (List.mem_append_left _ m')
      · have key : ∀ z, (z, NameKind.cell) ∈ done ++ [(name, kind)] → (z, NameKind.cell) ∈ done := fun z m => by
          rcases List.mem_append.mp m with m | m
          · exact m
          · simp at m; exact absurd m.2.symm hc
        exact C.inj x y c (key x mx) (key y my) hx hy
  · rintro cells s' ⟨done, h', hd, rfl, C, hl, hk⟩
    rw [List.append_nil] at hd
    exact hQ cells h' (hd ▸ C) hl hk

/-- what a new block's frame is -/
structure NewFrame (scope : Scope) (closure : List (Str × Addr)) (h₀ : Heap) (env : Env) (h' : Heap) (f : Str → Option Value) : Prop where
  frame : FrameAt env (OwnName scope) h' f
  old : ∀ b o, h₀.get? b = some o → h'.get? b = some o
  fresh : ∀ a, Mu env (OwnName scope) a → h₀.get? a = none
  clos : ∀ x, (x, NameKind.cell) ∉ scope.names → env.cells.lookup x = closure.lookup x

theorem frame_binds {scope : Scope} {closure : List (Str × Addr)} {h₀ : Heap} {env : Env} {Q : PUnit → Shared → Prop} : ∀ {binds : List (Str × Value)} {s : Shared} {f : Str → Option Value}, NewFrame scope closure h₀ env s.heap f → (∀ p ∈ binds, OwnName scope p.1) →
    (∀ h' tk, NewFrame scope closure h₀ env h' (binds.foldl (fun f p => fun y => if y = p.1 then some p.2 else f y) f) → Q ⟨⟩ { s with heap := h', toks := tk }) →
    wpAny M A (forIn binds PUnit.unit fun x r => match x with | (name, v) => do storeName env name v; pure (ForInStep.yield PUnit.unit)) Q E s
  | [], s, f, F, _, hQ => by rw [List.forIn_nil]; exact wpAny_pure (hQ s.heap s.toks F)
  | (x, v) :: binds, s, f, F, hb, hQ => by
    rw [List.forIn_cons]
    refine wpAny_bind (wpAny_bind (store_frame F.frame (hb _ (List.mem_cons_self ..)) fun h' tk F' C => wpAny_pure ?_))
    refine frame_binds (s := { s with heap := h', toks := tk }) ⟨F', fun b o e => C b o (fun m => ?_) (F.old b o e), F.fresh, F.clos⟩ (fun p m => hb p (List.mem_cons_of_mem _ m)) fun h'' tk' F'' => hQ h'' tk' F''
    rw [F.fresh b m] at e; cases e

theorem newEnv_sound {scope : Scope} {globals : Addr} {closure : List (Str × Addr)} {binds : List (Str × Value)} {qual : Str} {func : Option Addr} {code : Value} {around : Option Env} {builtins : Addr} {Q : Env → Shared → Prop}
    (hk : scope.kind = .function) (hb : ∀ p ∈ binds, OwnName scope p.1)
    (hQ : ∀ cells h' tk, NewFrame scope closure s.heap (newEnv scope s.heap.objs.size globals cells qual func code around builtins) h' (binds.foldl (fun f p => fun y => if y = p.1 then some p.2 else f y) fun _ => none) →
      Q (newEnv scope s.heap.objs.size globals cells qual func code around builtins) { s with heap := h', toks := tk }) :
    wpAny M A (newFunctionEnv scope globals closure binds qual func code around builtins) Q E s := by
  unfold newFunctionEnv
  refine wpAny_bind (wpAny_alloc ?_)
  refine wpAny_bind (cells_loop (scope := scope) (s₀ := s) rfl rfl fun cells h' C hl hold => ?_)
  have F0 : NewFrame scope closure s.heap (newEnv scope s.heap.objs.size globals cells qual func code around builtins) h' fun _ => none := by
    have e1 : (newEnv scope s.heap.objs.size globals cells qual func code around builtins).scope = scope := by unfold newEnv; cases around <;> rfl
    have e2 : (newEnv scope s.heap.objs.size globals cells qual func code around builtins).locals = s.heap.objs.size := by unfold newEnv; cases around <;> rfl
    have e3 : (newEnv scope s.heap.objs.size globals cells qual func code around builtins).cells = cells := by unfold newEnv; cases around <;> rfl
    have ek : ∀ x, (newEnv scope s.heap.objs.size globals cells qual func code around builtins).kindOf x = scope.names.lookup x := fun x => by unfold Env.kindOf; rw [e1]
    refine ⟨⟨by rw [e1]; exact hk, fun x hx => by rw [ek]; exact hx, ?_, fun x hx hc => ?_, fun x y c hx hy kx ky cx cy => ?_⟩, hold, fun a m => ?_, fun x m => by rw [e3]; exact C.else_ x m⟩
    · exact ⟨fun _ => none, by rw [e2]; exact ⟨_, #[], 0, hl, rfl, fun _ he => by simp at he, fun _ => rfl⟩, fun _ _ _ => rfl⟩
    · rw [ek] at hc
      obtain ⟨c, h1, h2, _⟩ := C.here x (lookup_mem hc)
      exact ⟨c, _, by rw [e3]; exact h1, h2, rfl, rfl⟩
    · rw [ek] at kx ky
      rw [e3] at cx cy
      exact C.inj x y c (lookup_mem kx) (lookup_mem ky) cx cy
    · rcases m with rfl | ⟨x, hx, kx, cx⟩
      · rw [e2]; exact fresh_none _
      · rw [ek] at kx
        rw [e3] at cx
        obtain ⟨c, h1, _, h3, _⟩ := C.here x (lookup_mem kx)
        rw [cx] at h1; cases h1; exact h3
  refine wpAny_bind ?_
  cases around with
  | none => exact frame_binds (s := { s with heap := h' }) F0 hb fun h'' tk F => wpAny_pure (hQ cells h'' tk F)
  | some o => exact frame_binds (s := { s with heap := h' }) F0 hb fun h'' tk F => wpAny_pure (hQ cells h'' tk F)

/-- the cells that a comprehension takes -/
theorem closure_sound {scope : Scope} {env : Env} (h : ∀ x, (x, NameKind.free) ∈ scope.names → ∃ c, env.cells.lookup x = some c) :
    ∃ cl, closureFor scope env = pure cl ∧ ∀ x, (x, NameKind.free) ∈ scope.names → cl.lookup x = env.cells.lookup x := by
  unfold closureFor
  have key : ∀ (l : Sc) (acc : List (Str × Addr)), (∀ x, (x, NameKind.free) ∈ l → ∃ c, env.cells.lookup x = some c) →
      ∃ cl, (forIn l acc fun x cs => match x with | (name, kind) => if (kind == NameKind.free) = true then (cellOf env name >>= fun a => pure (ForInStep.yield ((name, a) :: cs))) else pure (ForInStep.yield cs) : Sem (List (Str × Addr))) = pure cl ∧
        (∀ x, (x, NameKind.free) ∈ l → cl.lookup x = env.cells.lookup x) ∧ (∀ x, acc.lookup x = env.cells.lookup x → (∃ c, env.cells.lookup x = some c) → cl.lookup x = env.cells.lookup x) := by
    intro l
    induction l with
    | nil => intro acc _; exact ⟨acc, rfl, fun _ m => (nomatch m), fun _ e _ => e⟩
    | cons p l ih =>
      intro acc hl
      obtain ⟨name, kind⟩ := p
      rw [List.forIn_cons]
      by_cases hk : kind = .free
      · subst hk
        obtain ⟨c, hc⟩ := hl name (List.mem_cons_self ..)
        obtain ⟨cl, h1, h2, h3⟩ := ih ((name, c) :: acc) fun x m => hl x (List.mem_cons_of_mem _ m)
        have keep : ∀ x, (acc.lookup x = env.cells.lookup x ∨ x = name) → (∃ c, env.cells.lookup x = some c) → cl.lookup x = env.cells.lookup x := fun x hx hc' => by
          refine h3 x ?_ hc'
          by_cases e : x = name
          · subst e; simp [List.lookup_cons, hc]
          · have : (x == name) = false := by simpa using e
            rw [List.lookup_cons, this]
            exact hx.resolve_right e
        refine ⟨cl, ?_, fun x m => ?_, fun x hx hc' => keep x (.inl hx) hc'⟩
        · simp only [beq_self_eq_true, if_true, cellOf, hc]
          exact h1
        · rcases List.mem_cons.mp m with e | m
          · cases e; exact keep _ (.inr rfl) ⟨c, hc⟩
          · exact h2 x m
      · have hb : (kind == NameKind.free) = false := by simpa using hk
        obtain ⟨cl, h1, h2, h3⟩ := ih acc fun x m => hl x (List.mem_cons_of_mem _ m)
        refine ⟨cl, ?_, fun x m => ?_, h3⟩
        · simp only [hb, Bool.false_eq_true, if_false]
          exact h1
        · rcases List.mem_cons.mp m with e | m
          · cases e; exact absurd rfl hk
          · exact h2 x m
  obtain ⟨cl, h1, h2, _⟩ := key scope.names [] h
  refine ⟨cl, ?_, h2⟩
  have : ∀ t : Sem (List (Str × Addr)), t = pure cl → (t >>= fun cs => pure cs) = pure cl := fun t e => by rw [e]; rfl
  exact this _ h1
end
end Mine
namespace Mine
open PySem PySem.Spec PySem.Calls PySem.W PyProof.Rows
open PySem.Builtin PySem.Builtin.Str

theorem RdAll.all2 {h : Heap} {P : Addr → Prop} {xs : List PyData} {vs : List Value} (r : RdAll h P xs vs) : All2 (RV h P) (xs.map .d) vs := by
  induction xs generalizing vs with
  | nil => rw [r.nil_inv]; exact .nil
  | cons x xs ih =>
    obtain ⟨v, vs', rfl, r1, r2⟩ := r.cons_inv
    exact .cons r1 (ih r2)

inductive ItD where
  | lst (ax : Addr) (vals : Array Value) (own : Bool)
  | tup (ax : Addr) (vals : Array Value)
  | str (ty : String) (x : Str) (t : Tok)
  | rng (a b : Int)

noncomputable def ItSt (items : List V) (I : Addr) (P : Addr → Prop) : ItD → Nat → Heap → Prop
  | .lst ax vals own, i, h => h.IsListIter I ax i ∧ h.IsList ax vals ∧ All2 (RV h P) items vals.toList ∧ (own = false → P ax) ∧ ∀ v ∈ items, notOwn v = true
  | .tup ax vals, i, h => h.IsTupleIter I ax i ∧ h.IsTuple ax vals ∧ All2 (RV h P) items vals.toList ∧ ∀ v ∈ items, notOwn v = true
  | .str ty x t, i, h => (ty = "str_ascii_iterator" ∨ ty = "str_iterator") ∧ h.IsStrIter I ty x t i ∧ items = x.cps.toList.map fun c => .d (.str ⟨#[c]⟩)
  | .rng a b, i, h => IsRangeIter h I (a + (i : Nat) * 1) (((b - a).toNat : Int) - (i : Nat)) 1 ∧ items = (intRange a b).map fun i => .d (.int i)
noncomputable def ownIt : ItD → Bool
  | .lst _ _ own => own
  | _ => false

section
variable {items : List V} {I : Addr} {P X : Addr → Prop} {D : ItD} {i : Nat} {h h' : Heap}
theorem ItSt.at_ (t : ItSt items I P D i h) : ∃ o, h.get? I = some o ∧ Mut o ∧ ∀ vs n, o.data ≠ .seq vs n := by
  cases D with
  | lst ax vals own =>
    obtain ⟨⟨o, ho, hc, hd⟩, _⟩ := t
    exact ⟨o, ho, .iter hc hd (by decide) (by decide), fun _ _ e => by rw [hd] at e; cases e⟩
  | tup ax vals =>
    obtain ⟨⟨o, ho, hc, hd⟩, _⟩ := t
    exact ⟨o, ho, .iter hc hd (by decide) (by decide), fun _ _ e => by rw [hd] at e; cases e⟩
  | str ty x t' =>
    obtain ⟨hty, ⟨o, ho, hc, hd⟩, _⟩ := t
    refine ⟨o, ho, .iter hc hd ?_ ?_, fun _ _ e => by rw [hd] at e; cases e⟩ <;> rcases hty with rfl | rfl <;> decide
  | rng a b =>
    obtain ⟨ho, _⟩ := t
    exact ⟨_, ho, .iter rfl rfl (by decide) (by decide), fun _ _ e => by cases e⟩
theorem ItSt.ext (e : Ext h h') (t : ItSt items I P D i h) : ItSt items I P D i h' := by
  cases D with
  | lst ax vals own =>
    obtain ⟨⟨o, ho, hc, hd⟩, h1, h2, h3⟩ := t
    exact ⟨⟨o, e.cls ho (by rw [hc]; exact fun e => nomatch e), hc, hd⟩, e.isList h1, h2.imp fun _ _ => RV.ext e, h3⟩
  | tup ax vals =>
    obtain ⟨⟨o, ho, hc, hd⟩, h1, h2, h3⟩ := t
    exact ⟨⟨o, e.cls ho (by rw [hc]; exact fun e => nomatch e), hc, hd⟩, e.isTuple h1, h2.imp fun _ _ => RV.ext e, h3⟩
  | str ty x t' =>
    obtain ⟨hty, ⟨o, ho, hc, hd⟩, h1⟩ := t
    exact ⟨hty, ⟨o, e.cls ho (by rw [hc]; exact fun e => nomatch e), hc, hd⟩, h1⟩
  | rng a b =>
    obtain ⟨ho, h1⟩ := t
    exact ⟨e.cls ho (fun e => nomatch e), h1⟩
theorem All2.rvChg (k : Chg X h h') (x : Loose h P X) {items : List V} {vals : List Value} (n : ∀ v ∈ items, notOwn v = true) (r : All2 (RV h P) items vals) : All2 (RV h' P) items vals := by
  induction r with
  | nil => exact .nil
  | cons r _ ih => exact .cons (RV.chg' k x (n _ (List.mem_cons_self ..)) r) (ih fun v m => n v (List.mem_cons_of_mem _ m))
theorem ItSt.chg (k : Chg X h h') (x : Loose h P X) (hI : ¬ X I) (ho : ownIt D = true → ∀ b o, X b → h.get? b = some o → ∀ vs n, o.data ≠ .seq vs n) (t : ItSt items I P D i h) : ItSt items I P D i h' := by
  cases D with
  | lst ax vals own =>
    obtain ⟨⟨o, ho', hc, hd⟩, ⟨ol, hol, hcl, n, hdl⟩, h2, h3, h4⟩ := t
    refine ⟨⟨o, k _ _ hI ho', hc, hd⟩, ⟨ol, k _ _ (fun m => ?_) hol, hcl, n, hdl⟩, h2.rvChg k x h4, h3, h4⟩
    cases own with
    | true => exact ho rfl _ _ m hol _ _ hdl
    | false => exact (x _ _ m hol).1 (h3 rfl)
  | tup ax vals =>
    obtain ⟨⟨o, ho', hc, hd⟩, ⟨ol, hol, hcl, n, hdl⟩, h2, h4⟩ := t
    exact ⟨⟨o, k _ _ hI ho', hc, hd⟩, ⟨ol, k _ _ (fun m => (x _ _ m hol).2.tup ⟨hcl, _, _, hdl⟩) hol, hcl, n, hdl⟩, h2.rvChg k x h4, h4⟩
  | str ty x' t' =>
    obtain ⟨hty, ⟨o, ho', hc, hd⟩, h1⟩ := t
    exact ⟨hty, ⟨o, k _ _ hI ho', hc, hd⟩, h1⟩
  | rng a b =>
    obtain ⟨ho', h1⟩ := t
    exact ⟨k _ _ hI ho', h1⟩
end
theorem intRange_get {a b : Int} {i : Nat} : (intRange a b)[i]? = if i < (b - a).toNat then some (a + (i : Int)) else none := by
  unfold intRange
  rw [List.getElem?_map]
  split
  · rename_i h; rw [List.getElem?_range h]; rfl
  · rename_i h; rw [List.getElem?_eq_none (by simpa using h)]; rfl

section
variable {w : World} {A : Around} {E : Value → Shared → Prop} {s : Shared} {items : List V} {I : Addr} {P : Addr → Prop} {D : ItD} {i : Nat} {K : Frag}

theorem it_next {v : V} {Q : Option Value → Shared → Prop} (hv : items[i]? = some v) (hI : ¬ P I) (t : ItSt items I P D i s.heap)
    (hQ : ∀ val h' tk, ItSt items I P D (i + 1) h' → Chg (· = I) s.heap h' → RV h' P v val → Q (some val) { s with heap := h', toks := tk }) : wpAny (model prog w) A (pyNext (.ref I)) Q E s := by
  obtain ⟨oI, hoI, hmI, hnI⟩ := t.at_
  have lo : Loose s.heap P (· = I) := fun b o e q => by subst e; rw [hoI] at q; cases q; exact ⟨hI, hmI⟩
  cases D with
  | lst ax vals own =>
    obtain ⟨h0, h1, h2, h3, h4⟩ := t
    obtain ⟨u, hu, ru⟩ := h2.get i v hv
    refine wpAny_pyNext_list_item h0 h1 (x := u) (by simpa using hu) fun h' hit' hs' => ?_
    have k : Chg (· = I) s.heap h' := fun b o hb e => (hs'.2 b hb).trans e
    have hax : ax ≠ I := fun e => by
      obtain ⟨o, ho, _, n, hd⟩ := h1
      rw [e, hoI] at ho; cases ho; exact hnI _ _ hd
    refine hQ u h' s.toks ⟨hit', h1.extBut hs'.extBut hax, h2.rvChg k lo h4, h3, h4⟩ k ?_
    exact RV.chg' k lo (h4 v (List.mem_of_getElem? hv)) ru
  | tup ax vals =>
    obtain ⟨h0, h1, h2, h4⟩ := t
    obtain ⟨u, hu, ru⟩ := h2.get i v hv
    refine wpAny_pyNext_tuple_item h0 h1 (x := u) (by simpa using hu) fun h' hit' hs' => ?_
    have k : Chg (· = I) s.heap h' := fun b o hb e => (hs'.2 b hb).trans e
    have hax : ax ≠ I := fun e => by
      obtain ⟨o, ho, _, n, hd⟩ := h1
      rw [e, hoI] at ho; cases ho; exact hnI _ _ hd
    refine hQ u h' s.toks ⟨hit', h1.extBut hs'.extBut hax, h2.rvChg k lo h4, h4⟩ k ?_
    exact RV.chg' k lo (h4 v (List.mem_of_getElem? hv)) ru
  | str ty x t' =>
    obtain ⟨hty, h0, rfl⟩ := t
    rw [List.getElem?_map] at hv
    obtain ⟨c, hc, rfl⟩ := Option.map_eq_some_iff.mp hv
    rcases hty with rfl | rfl
    · refine wpAny_pyNext_ascii_item h0 (c := c) (by simpa using hc) fun h' hit' hs' => ?_
      exact hQ _ h' _ ⟨.inl rfl, hit', rfl⟩ (fun b o hb e => (hs'.2 b hb).trans e) (Rd.str _ _)
    · refine wpAny_pyNext_wide_item h0 (c := c) (by simpa using hc) fun h' hit' hs' => ?_
      exact hQ _ h' _ ⟨.inr rfl, hit', rfl⟩ (fun b o hb e => (hs'.2 b hb).trans e) (Rd.str _ _)
  | rng a b =>
    obtain ⟨h0, rfl⟩ := t
    rw [List.getElem?_map, intRange_get] at hv
    split at hv
    · rename_i hi
      obtain rfl : V.d (.int (a + (i : Int))) = v := by simpa using hv
      refine wpAny_pyNext_range_item h0 (by omega) fun h' hit' hs' => ?_
      refine hQ _ h' _ ⟨?_, rfl⟩ (fun b o hb e => (hs'.2 b hb).trans e) ?_
      · have e1 : a + ((i + 1 : Nat) : Int) * 1 = a + (i : Int) * 1 + 1 := by omega
        have e2 : ((b - a).toNat : Int) - ((i + 1 : Nat) : Int) = ((b - a).toNat : Int) - (i : Int) - 1 := by omega
        rw [e1, e2]; exact hit'
      · rw [Int.mul_one]; exact Rd.int _ _
    · simp at hv

theorem it_done {Q : Option Value → Shared → Prop} (hh : A.handled = none) (hn : items.length = i) (t : ItSt items I P D i s.heap)
    (hQ : ∀ h' tk, Chg (· = I) s.heap h' → Q none { s with heap := h', toks := tk }) : wpAny (model prog w) A (pyNext (.ref I)) Q E s := by
  cases D with
  | lst ax vals own =>
    obtain ⟨h0, h1, h2, _⟩ := t
    have e := h2.length
    refine wpAny_pyNext_list_end hh h0 h1 (by rw [← hn]; simpa using Nat.le_of_eq (by simpa using e)) fun h' he' => hQ h' s.toks fun b o hb e => he' b o hb e
  | tup ax vals =>
    obtain ⟨h0, h1, h2, _⟩ := t
    have e := h2.length
    refine wpAny_pyNext_tuple_end hh h0 h1 (by rw [← hn]; simpa using Nat.le_of_eq (by simpa using e)) fun h' he' => hQ h' s.toks fun b o hb e => he' b o hb e
  | str ty x t' =>
    obtain ⟨hty, h0, rfl⟩ := t
    rw [List.length_map] at hn
    rcases hty with rfl | rfl
    · exact wpAny_pyNext_ascii_end hh h0 (by rw [← hn]; simp) fun h' he' => hQ h' s.toks fun b o hb e => he' b o hb e
    · exact wpAny_pyNext_wide_end hh h0 (by rw [← hn]; simp) fun h' he' => hQ h' s.toks fun b o hb e => he' b o hb e
  | rng a b =>
    obtain ⟨h0, rfl⟩ := t
    rw [List.length_map, intRange, List.length_map, List.length_range] at hn
    exact wpAny_pyNext_range_end hh h0 (by omega) fun h' he' => hQ h' s.toks fun b o hb e => he' b o hb e

theorem it_self {Q : Value → Shared → Prop} (t : ItSt items I P D i s.heap) (h : Q (.ref I) s) : wpAny (model prog w) A (pyIter (.ref I)) Q E s := by
  cases D with
  | lst ax vals own => exact wpAny_pyIter_listiter t.1 h
  | tup ax vals => exact wpAny_pyIter_tupleiter t.1 h
  | str ty x t' =>
    obtain ⟨hty, h0, _⟩ := t
    rcases hty with rfl | rfl
    · exact wpAny_pyIter_striter_ascii h0 h
    · exact wpAny_pyIter_striter_wide h0 h
  | rng a b => exact wpAny_pyIter_rangeiter t.1 h

theorem notOwn_map {xs : List PyData} : ∀ v ∈ xs.map V.d, notOwn v = true := fun v m => by
  obtain ⟨x, _, rfl⟩ := List.mem_map.mp m; rfl

theorem All2.wsl {h : Heap} {rs : List Str} {vs : List Value} (q : All2 (WsAt h P) rs vs) : All2 (RV h P) (rs.map V.ws) vs := by
  induction q with
  | nil => exact .nil
  | cons r _ ih => exact .cons r ih
/-- iter(v) -/
theorem it_make {v : V} {val : Value} {Q : Value → Shared → Prop} (e : ItemsR v items) (g : Good K s.heap) (r : RV s.heap P v val)
    (hQ : ∀ D o, ItSt items s.heap.objs.size P D 0 (s.heap.push o) → (ownIt D = true → notOwn v = false) → Q (.ref s.heap.objs.size) { s with heap := s.heap.push o }) : wpAny (model prog w) A (pyIter val) Q E s := by
  cases e with
  | list xs =>
    obtain ⟨a, vs, rfl, p, hl, hr⟩ := Rd.list_inv r
    exact wpAny_pyIter_list hl (hQ (.lst a vs false) _ ⟨⟨_, Heap.get?_push_size _ rfl, rfl, rfl⟩, hl.push _, (hr.ext (ext_push _ _)).all2, fun _ => p, notOwn_map⟩ (fun e => nomatch e))
  | tuple xs =>
    obtain ⟨a, vs, rfl, hl, hr⟩ := Rd.tuple_inv r
    exact wpAny_pyIter_tuple hl (hQ (.tup a vs) _ ⟨⟨_, Heap.get?_push_size _ rfl, rfl, rfl⟩, hl.push _, (hr.ext (ext_push _ _)).all2, notOwn_map⟩ (fun e => nomatch e))
  | str x =>
    obtain ⟨t, rfl⟩ := Rd.str_inv r
    cases ha : x.cps.all (· < 128)
    · exact wpAny_pyIter_wide ha (hQ (.str "str_iterator" x t) _ ⟨.inr rfl, ⟨_, Heap.get?_push_size _ rfl, rfl, rfl⟩, rfl⟩ (fun e => nomatch e))
    · exact wpAny_pyIter_ascii ha (hQ (.str "str_ascii_iterator" x t) _ ⟨.inl rfl, ⟨_, Heap.get?_push_size _ rfl, rfl, rfl⟩, rfl⟩ (fun e => nomatch e))
  | own xs =>
    obtain ⟨a, vs, rfl, hl, hr⟩ := r
    exact wpAny_pyIter_list hl (hQ (.lst a vs true) _ ⟨⟨_, Heap.get?_push_size _ rfl, rfl, rfl⟩, hl.push _, (hr.ext (ext_push _ _)).all2, fun e => (nomatch e), notOwn_map⟩ (fun _ => rfl))
  | @rng a b h1 h2 =>
    have h1 := small_iff h1
    have h2 := small_iff h2
    obtain ⟨r, t, u, w', rfl, hr⟩ := r
    have hsz : Builtin.Range.rangeSize a b 1 = ((b - a).toNat : Int) := by
      unfold Builtin.Range.rangeSize
      simp only [gt_iff_lt, Int.zero_lt_one, if_true]
      split <;> omega
    refine wpAny_pyIter_range hr ?_ ?_
    · unfold Builtin.Range.small Builtin.Range.rangeFitsLong
      rw [hsz]
      simp
      omega
    · rw [hsz]
      refine hQ (.rng a b) _ ⟨?_, rfl⟩ (fun e => nomatch e)
      have e1 : a + ((0 : Nat) : Int) * 1 = a := by omega
      have e2 : ((b - a).toNat : Int) - ((0 : Nat) : Int) = ((b - a).toNat : Int) := Int.sub_zero _
      rw [e1, e2]
      exact Heap.get?_push_size _ rfl
  | wsl rs =>
    obtain ⟨a, vs, rfl, p, hl, hr⟩ := r
    refine wpAny_pyIter_list hl (hQ (.lst a vs false) _ ⟨⟨_, Heap.get?_push_size _ rfl, rfl, rfl⟩, hl.push _, (hr.imp fun _ _ => WsAt.ext (ext_push _ _)).wsl, fun _ => p, fun v m => ?_⟩ (fun e => nomatch e))
    obtain ⟨x, _, rfl⟩ := List.mem_map.mp m; rfl
end
end Mine
namespace Mine
open PySem PySem.Spec PySem.Calls PySem.W PyProof.Rows
open PySem.Builtin PySem.Builtin.Str

section
variable {h : Heap} {P P' : Addr → Prop}
theorem Rd.strong {d v} (k : ∀ a, P a → h.get? a ≠ Option.none → P' a) (r : Rd h P d v) : Rd h P' d v := let ⟨as, r, p⟩ := r; ⟨as, r, fun a m => k a (p a m) (((move_both h h).1 r).1 a m)⟩
theorem RdAll.strong {d v} (k : ∀ a, P a → h.get? a ≠ none → P' a) (r : RdAll h P d v) : RdAll h P' d v := let ⟨as, r, p⟩ := r; ⟨as, r, fun a m => k a (p a m) (((move_both h h).2 r).1 a m)⟩
theorem WsAt.strong {raw v} (k : ∀ a, P a → h.get? a ≠ none → P' a) (r : WsAt h P raw v) : WsAt h P' raw v := by
  obtain ⟨a, ox, dx, od, e, h1, h2, h3, h4, h5, h6, h7, h8, h9⟩ := r.ex
  exact ⟨a, ox, dx, od, e, h1, h2, h3, h4, k _ h5 (by rw [h6]; exact fun e => nomatch e), h6, h7, fun n d e => let ⟨v, a, b⟩ := h8 n d e; ⟨v, a, b.strong k⟩, h9⟩
theorem RV.strong (k : ∀ a, P a → h.get? a ≠ none → P' a) {v : V} {val : Value} (r : RV h P v val) : RV h P' v val := by
  cases v with
  | d => exact Rd.strong k r
  | own => obtain ⟨a, vs, e, l, r⟩ := r; exact ⟨a, vs, e, l, r.strong k⟩
  | rng => exact r
  | fn => exact r
  | ws => exact WsAt.strong k r
  | wsl => obtain ⟨a, vs, e, p, ⟨o, ho, l⟩, r⟩ := r; exact ⟨a, vs, e, k _ p (by rw [ho]; exact fun e => nomatch e), ⟨o, ho, l⟩, r.imp fun _ _ => WsAt.strong k⟩
end

section
variable {w : World} {A : Around} {E : Value → Shared → Prop} {s : Shared} {P : Addr → Prop} {K : Frag} {env : Env} {N : Str → Prop} {f : Str → Option Value}

theorem ne_of_beq_false {x y : Str} (h : (x == y) = false) : x ≠ y := fun e => by rw [e, beq_self_eq_true] at h; cases h
theorem FrameAt.loose {h : Heap} (F : FrameAt env N h f) (hP : ∀ a, Mu env N a → ¬ P a) : Loose h P (Mu env N) := fun b o m e => by
  obtain ⟨o', h1, h2, _⟩ := F.mu m
  rw [e] at h1; cases h1
  exact ⟨hP b m, h2⟩
theorem FrameAt.noSeq {h : Heap} (F : FrameAt env N h f) : ∀ b o, Mu env N b → h.get? b = some o → ∀ vs n, o.data ≠ .seq vs n := fun b o m e => by
  obtain ⟨o', h1, _, h2⟩ := F.mu m
  rw [e] at h1; cases h1
  exact h2

theorem assign_sound {target : Expr} {v : V} {b : Rho} {val : Value} {Q : Unit → Shared → Prop} (e : BindR target v b) (hh : A.handled = none) (r : RV s.heap P v val) (F : FrameAt env N s.heap f) (hN : ∀ p ∈ b, N p.1)
    (hP : ∀ a, Mu env N a → ¬ P a)
    (hQ : ∀ h' tk f', FrameAt env N h' f' → Chg (Mu env N) s.heap h' → (∀ x, b.lookup x = none → f' x = f x) → (∀ x u, b.lookup x = some u → ∃ y, f' x = some y ∧ RV h' P u y) → Q () { s with heap := h', toks := tk }) :
    wpAny (model prog w) A (assign target env val) Q E s := by
  cases e with
  | name x p v =>
    refine wpAny_assign_Name (store_frame F (hN _ (List.mem_cons_self ..)) fun h' tk F' C => ?_)
    refine hQ h' tk _ F' C (fun y hy => ?_) fun y u hy => ?_
    · cases q : y == x with
      | true => rw [List.lookup_cons, q] at hy; cases hy
      | false => exact if_neg (ne_of_beq_false q)
    · cases q : y == x with
      | true =>
        rw [List.lookup_cons, q] at hy
        cases hy
        exact ⟨val, if_pos (eq_of_beq q), RV.chg C (F.loose hP) F.noSeq r⟩
      | false => rw [List.lookup_cons, q] at hy; cases hy
  | @pair x y c d p1 p2 x1 p3 hxy =>
    have hxy : x ≠ y := ne_of_beq_false hxy
    obtain ⟨t, vs, rfl, ht, hr⟩ := Rd.tuple_inv r
    obtain ⟨u1, vs', e1, r1, hr⟩ := hr.cons_inv
    obtain ⟨u2, vs'', e2, r2, hr⟩ := hr.cons_inv
    have e3 := hr.nil_inv
    subst e3 e2
    have e4 : vs = #[u1, u2] := Array.ext' e1
    subst e4
    refine wpAny_assign_Tuple hh ht rfl rfl fun h1 k1 => ?_
    have k1' : ∀ b o, s.heap.get? b = some o → h1.get? b = some o := fun b o e => k1 b o (Nat.ne_of_lt (Heap.lt_size e)) e
    have x1 : Ext s.heap h1 := .of_keep k1'
    have F1 := F.ext x1
    show wpAny _ _ (do holding [u2] (assign (.Name x p1) env u1); (do holding [] (assign (.Name y p2) env u2); pure ())) _ _ _
    refine wpAny_bind (wpAny_holding (wpAny_assign_Name (store_frame (s := { s with heap := h1 }) F1 (hN _ (List.mem_cons_self ..)) fun h2 tk2 F2 C2 => ?_)))
    refine wpAny_bind (wpAny_holding (wpAny_assign_Name (store_frame (s := { s with heap := h2, toks := tk2 }) F2 (hN _ (List.mem_cons_of_mem _ (List.mem_cons_self ..))) fun h3 tk3 F3 C3 => wpAny_pure ?_)))
    have rr : ∀ {z : PyData} {u : Value}, Rd s.heap P z u → RV h3 P (.d z) u := fun {z u} q => RV.chg C3 (F2.loose hP) F2.noSeq (RV.chg (v := .d z) C2 (F1.loose hP) F1.noSeq (RV.ext x1 (v := .d z) q))
    refine hQ h3 tk3 _ F3 (fun b o hb e => C3 b o hb (C2 b o hb (k1' b o e))) (fun z hz => ?_) fun z u hz => ?_
    · cases q1 : z == x with
      | true => rw [List.lookup_cons, q1] at hz; cases hz
      | false =>
        cases q2 : z == y with
        | true => rw [List.lookup_cons, q1, List.lookup_cons, q2] at hz; cases hz
        | false => rw [if_neg (ne_of_beq_false q2), if_neg (ne_of_beq_false q1)]
    · cases q1 : z == x with
      | true =>
        rw [List.lookup_cons, q1] at hz
        cases hz
        have q1 : z = x := eq_of_beq q1
        subst q1
        exact ⟨u1, by rw [if_neg hxy, if_pos rfl], rr r1⟩
      | false =>
        cases q2 : z == y with
        | true =>
          rw [List.lookup_cons, q1, List.lookup_cons, q2] at hz
          cases hz
          exact ⟨u2, if_pos (eq_of_beq q2), rr r2⟩
        | false => rw [List.lookup_cons, q1, List.lookup_cons, q2] at hz; cases hz

theorem ownedGo {items : List V} {I : Addr} {D : ItD} {i : Nat} {target : Expr} {v : Value} {Q : Unit → Shared → Prop} (t : ItSt items I P D i s.heap) (h : Q () s) : wpAny (model prog w) A (letOwnedTupleGo target (.ref I) v) Q E s := by
  have key : ∃ o T, s.heap.get? I = some o ∧ o.cls = .type T ∧ (["enumerate", "zip", "dict_itemiterator", "dict_reverseitemiterator", "odict_iterator", "itertools.zip_longest", "itertools.pairwise"].contains T) = false := by
    cases D with
    | lst ax vals own => obtain ⟨⟨o, ho, hc, hd⟩, _⟩ := t; exact ⟨o, _, ho, hc, by decide⟩
    | tup ax vals => obtain ⟨⟨o, ho, hc, hd⟩, _⟩ := t; exact ⟨o, _, ho, hc, by decide⟩
    | str ty x t' =>
      obtain ⟨hty, ⟨o, ho, hc, hd⟩, _⟩ := t
      refine ⟨o, _, ho, hc, ?_⟩
      rcases hty with rfl | rfl <;> decide
    | rng a b => obtain ⟨ho, _⟩ := t; exact ⟨_, _, ho, rfl, by decide⟩
  obtain ⟨o, T, ho, hc, hT⟩ := key
  have body : wpAny (model prog w) A (do
      let (.ref r, .ref a) := (Value.ref I, v) | return
      let o ← load r
      match o.cls, o.data with
      | .type n, .fields vs =>
        if ["enumerate", "zip", "dict_itemiterator", "dict_reverseitemiterator", "odict_iterator", "itertools.zip_longest", "itertools.pairwise"].contains n && vs[0]? == some (rawInt a) then
          rule "for.unpacks-the-owned-tuple"
          updateField r 0 .none
      | _, _ => pure ()) Q E s := by
    cases v <;> try exact wpAny_pure h
    refine wpAny_bind (wpAny_load ho ?_)
    rw [hc]
    cases o.data <;> try exact wpAny_pure h
    simp only [hT, Bool.false_and, Bool.false_eq_true, if_false]
    exact wpAny_pure h
  unfold letOwnedTupleGo
  split
  · exact body
  · exact body
  · exact wpAny_pure h
end

section
variable (w : World) (K : Frag) (l : Nat) (sc : Sc) (ρ : Rho)
inductive IfsR : List Expr → Bool → Prop
  | nil : IfsR [] true
  | t {e r b} (h : Tv w K l sc ρ e true) (q : IfsR r b) : IfsR (e :: r) b
  | f {e r} (h : Tv w K l sc ρ e false) : IfsR (e :: r) false
end
section
variable {w : World} {K : Frag} {l : Nat} {sc : Sc} {ρ : Rho} {A : Around} {P : Addr → Prop} {env : Env} {E : Value → Shared → Prop}
theorem ifs_skip (l : List Expr) (s : Shared) (Q : Bool → Shared → Prop) (h : Q false s) : wpAny (model prog w) A (forIn l false fun c r => if r = true then do let ok ← isTrue c env (eval c env); pure (ForInStep.yield ok) else pure (ForInStep.yield r)) Q E s := by
  induction l with
  | nil => rw [List.forIn_nil]; exact wpAny_pure h
  | cons c l ih => rw [List.forIn_cons]; exact wpAny_bind (wpAny_pure ih)
theorem ifs_sound {ifs : List Expr} {b : Bool} (e : IfsR w K l sc ρ ifs b) (ro : Room l A) (ok : EnvOk env sc) : ∀ {s : Shared} {Q : Bool → Shared → Prop}, Good K s.heap → FreshOk P s.heap → EnvRel env ρ s.heap P →
    OutB K b s Q → wpAny (model prog w) A (forIn ifs true fun c r => if r = true then do let ok ← isTrue c env (eval c env); pure (ForInStep.yield ok) else pure (ForInStep.yield r)) Q E s := by
  induction e with
  | nil => intro s Q g f er o; rw [List.forIn_nil]; exact wpAny_pure (o.here (tk := s.toks) g)
  | t h _ ih =>
    intro s Q g f er o
    rw [List.forIn_cons]
    refine wpAny_bind (wpAny_bind (h A s P _ E env ro g f ok er fun h' tk x g' => wpAny_pure ?_))
    exact ih g' (f.ext x) (er.ext x) fun h'' tk' x' g'' => o h'' tk' (x.trans x') g''
  | f h =>
    intro s Q g f er o
    rw [List.forIn_cons]
    exact wpAny_bind (wpAny_bind (h A s P _ E env ro g f ok er fun h' tk x g' => wpAny_pure (ifs_skip _ _ _ (o h' tk x g'))))
end
end Mine
namespace Mine
open PySem PySem.Spec PySem.Calls PySem.W PyProof.Rows
open PySem.Builtin PySem.Builtin.Str

theorem app_cons {α : Type} {ys zs : List α} {y : α} : ys ++ y :: zs = (ys ++ [y]) ++ zs := (List.append_assoc ys [y] zs).symm
theorem er_bound {env : Env} {ρ b : Rho} {h : Heap} {P : Addr → Prop} {f2 : Str → Option Value} (hb2 : ∀ x u, b.lookup x = some u → ∃ y, f2 x = some y ∧ RV h P u y) (hn : ∀ x u, b.lookup x = some u → ∀ {y}, f2 x = some y → NameIs env h x y) (er : EnvRel env ρ h P) : EnvRel env (b ++ ρ) h P := by
  intro x u hx
  rw [List.lookup_append] at hx
  cases q : b.lookup x with
  | some u' =>
    rw [q] at hx
    obtain rfl : u' = u := by cases hx; rfl
    obtain ⟨y, hy, ry⟩ := hb2 x u' q
    exact ⟨y, hn x u' q hy, ry⟩
  | none =>
    rw [q] at hx
    exact er x u hx
theorem ItSt.alive {items : List V} {I : Addr} {P : Addr → Prop} {D : ItD} {n : Nat} {h : Heap} (t : ItSt items I P D n h) : h.get? I ≠ none := by
  obtain ⟨o, ho, _⟩ := t.at_; rw [ho]; exact fun e => nomatch e
theorem loose_list {h : Heap} {P : Addr → Prop} {D : Addr} {vs : Array Value} (p : ¬ P D) (l : h.IsList D vs) : Loose h P (· = D) := fun b o e q => by
  obtain ⟨oD, hoD, hcD, nD, hdD⟩ := l
  subst e; rw [hoD] at q; cases q; exact ⟨p, .list hcD hdD⟩
theorem drop_at {α : Type} {items vs : List α} {v : α} {i : Nat} (hi : items.drop i = v :: vs) : i < items.length ∧ items.drop (i + 1) = vs ∧ items[i]? = some v := by
  have hlt : i < items.length := by
    rcases Nat.lt_or_ge i items.length with q | q
    · exact q
    · rw [List.drop_of_length_le q] at hi; cases hi
  rw [List.drop_eq_getElem_cons hlt] at hi
  injection hi with h1 h2
  exact ⟨hlt, h2, by rw [List.getElem?_eq_getElem hlt, h1]⟩
theorem compTurn_last {elt : Expr} {gens : List Comprehension} {scope : Scope} {pos : Pos} {d : Nat} {target iter : Expr} {ifs : List Expr} (h : gens[d]? = some ⟨target, iter, ifs, 0⟩) (h' : gens[d + 1]? = none) (it acc : Value) (env : Env) :
    compTurn (.ListComp elt gens scope pos) d it acc env = (standAt iter.pos >>= fun _ => pyNext it >>= fun r => match r with
      | none => pure (.done .next)
      | some v => letOwnedTupleGo target it v >>= fun _ => assign target env v >>= fun _ =>
        (forIn ifs true fun c r => if r = true then do let ok ← isTrue c env (eval c env); pure (ForInStep.yield ok) else pure (ForInStep.yield r)) >>= fun ok =>
          if ok = true then (eval elt env >>= fun x => call (.builtin "list.append") [acc, x] >>= fun _ => pure ()) >>= fun _ => again (.compLoop (.ListComp elt gens scope pos) d it acc env)
          else again (.compLoop (.ListComp elt gens scope pos) d it acc env)) := by
  unfold compTurn
  simp only [h, h']
  rfl

/-- what does not change over a comprehension's run -/
structure CompFix (K : Frag) (P : Addr → Prop) (env : Env) (N : Str → Prop) (D : Addr) : Prop where
  pD : ¬ P D
  pM : ∀ a, Mu env N a → ¬ P a
  dM : ¬ Mu env N D
  kD : K.lookup D = none
  kM : ∀ a, Mu env N a → K.lookup a = none
structure CompSt (K : Frag) (P : Addr → Prop) (env : Env) (N : Str → Prop) (D I : Addr) (ys : List V) (h : Heap) : Prop where
  frame : ∃ f, FrameAt env N h f
  acc : ∃ vals, h.IsList D vals ∧ All2 (RV h P) ys vals.toList
  own : ∀ y ∈ ys, notOwn y = true
  good : Good K h
  fresh : FreshOk (fun a => P a ∨ a = I) h
structure Stab (P : Addr → Prop) (env : Env) (N : Str → Prop) (D I : Addr) (J : Heap → Prop) : Prop where
  ext : ∀ h h', J h → Ext h h' → J h'
  chg : ∀ h h' (X : Addr → Prop), J h → Chg X h h' → (∀ a, X a → Mu env N a ∨ a = D ∨ a = I) → Loose h P X → J h'

section
variable {K : Frag} {P : Addr → Prop} {env : Env} {N : Str → Prop} {D I : Addr} {ys : List V} {h h' : Heap}
theorem CompSt.ext (c : CompSt K P env N D I ys h) (x : Ext h h') (g : Good K h') : CompSt K P env N D I ys h' :=
  ⟨let ⟨f, F⟩ := c.frame; ⟨f, F.ext x⟩, let ⟨v, a, b⟩ := c.acc; ⟨v, x.isList a, b.imp fun _ _ => RV.ext x⟩, c.own, g, c.fresh.ext x⟩
theorem FreshOk.alive {P : Addr → Prop} (f : FreshOk (fun a => P a ∨ a = I) h) (hI : h.get? I ≠ none) : FreshOk P h := fun a e => by
  rcases f a e with q | q
  · exact q
  · subst q; exact absurd e hI
/-- an own frame's store -/
theorem CompSt.stored (c : CompSt K P env N D I ys h) (fx : CompFix K P env N D) (iM : ¬ Mu env N I) {f : Str → Option Value} (F' : FrameAt env N h' f) (k : Chg (Mu env N) h h') : CompSt K P env N D I ys h' := by
  obtain ⟨f0, F⟩ := c.frame
  have lo := F.loose fx.pM
  obtain ⟨vals, ⟨o, ho, r⟩, a2⟩ := c.acc
  have hD : h'.get? D = some o := k _ _ fx.dM ho
  refine ⟨⟨f, F'⟩, ⟨vals, ⟨o, hD, r⟩, a2.rvChg k lo c.own⟩, c.own, c.good.chg k (fun b o m e => (lo b o m e).2) fx.kM, fun a e => ?_⟩
  cases q : h.get? a with
  | none => exact c.fresh a q
  | some o' =>
    exfalso
    by_cases m : Mu env N a
    · obtain ⟨o2, h2, _⟩ := F'.mu m
      rw [e] at h2; cases h2
    · rw [k a o' m q] at e; cases e
/-- the iterator goes on -/
theorem CompSt.nexted (c : CompSt K P env N D I ys h) (iM : ¬ Mu env N I) (iD : I ≠ D) (kI : K.lookup I = none) (lo : Loose h P (· = I)) (k : Chg (· = I) h h') : CompSt K P env N D I ys h' := by
  obtain ⟨f0, F⟩ := c.frame
  obtain ⟨vals, ⟨o, ho, r⟩, a2⟩ := c.acc
  refine ⟨⟨f0, F.chg k fun a m e => iM (e ▸ m)⟩, ⟨vals, ⟨o, k _ _ (fun e => iD e.symm) ho, r⟩, a2.rvChg k lo c.own⟩, c.own, c.good.chg k (fun b o m e => (lo b o m e).2) (fun b m => by rw [m]; exact kI), fun a e => ?_⟩
  cases q : h.get? a with
  | none => exact c.fresh a q
  | some o' =>
    by_cases m : a = I
    · exact .inr m
    · rw [k a o' m q] at e; cases e
end

section
variable (w : World) (K : Frag) (l : Nat) (elt target : Expr) (ifs : List Expr) (sc : Sc) (ρ : Rho)
/-- the turns of a comprehension with one clause -/
inductive CompR : List V → List V → Prop
  | nil : CompR [] []
  | step {v vs b t ys zs} (hb : BindR target v b) (hn : ∀ p ∈ b, nameOkIn sc p.1 = true) (hi : IfsR w K l sc (b ++ ρ) ifs t) (q : CompR vs ys)
    (hy : (t = true ∧ ∃ y, zs = y :: ys ∧ Ev w K l sc (b ++ ρ) elt y) ∨ (t = false ∧ zs = ys)) : CompR (v :: vs) zs
end
section
variable {w : World} {K : Frag} {l : Nat} {A : Around} {R : Result → Shared → Prop}

theorem comp_inner {elt : Expr} {gens : List Comprehension} {scope : Scope} {pos : Pos} {d : Nat} {target iter : Expr} {ifs : List Expr} (hg : gens[d]? = some ⟨target, iter, ifs, 0⟩) (hg' : gens[d + 1]? = none)
    {env : Env} {sc : Sc} {ρ : Rho} {N : Str → Prop} {D I : Addr} {It : ItD} {P : Addr → Prop} {items : List V} {J : Heap → Prop}
    (ro : Room l A) (ok : EnvOk env sc) (fx : CompFix K P env N D) (pI : ¬ P I) (iM : ¬ Mu env N I) (iD : I ≠ D) (kI : K.lookup I = none) (st : Stab P env N D I J) (hJ : ∀ h, J h → EnvRel env ρ h P)
    (hN : ∀ x, nameOkIn sc x = true → N x) (hoI : ownIt It = false) :
    ∀ (vs : List V) (i : Nat) (s : Shared) (ys zs : List V), i ≤ items.length → items.drop i = vs → CompR w K l elt target ifs sc ρ vs zs → (ys ++ zs).length ≤ sizeLine → (∀ z ∈ zs, notOwn z = true) → CompSt K P env N D I ys s.heap → ItSt items I P It i s.heap → J s.heap →
      (∀ h' tk, CompSt K P env N D I (ys ++ zs) h' → J h' → R (.ok .next) { s with heap := h', toks := tk }) →
      codeAny (model prog w) A (.compLoop (.ListComp elt gens scope pos) d (.ref I) (.ref D) env) R s := by
  intro vs
  induction vs with
  | nil =>
    intro i s ys zs hle hi hr hl hz c t j hR
    refine codeAny_of_tree ?_
    show wpAny (model prog w) A ((compTurn (.ListComp elt gens scope pos) d (.ref I) (.ref D) env).onRaise (fun x => do noteFrame x env; theTreesLotGoes x)) _ _ s
    refine wpAny_noted ?_
    rw [compTurn_last hg hg']
    cases hr
    obtain ⟨oI, hoI', hmI, _⟩ := t.at_
    have lo : Loose s.heap P (· = I) := fun b o e q => by subst e; rw [hoI'] at q; cases q; exact ⟨pI, hmI⟩
    have hlen : items.length ≤ i := by simpa using hi
    refine wpAny_bind (wpAny_standAt (wpAny_bind (it_done ro.handled (Nat.le_antisymm hlen hle) t fun h' tk k => wpAny_pure ?_)))
    exact hR h' tk ((List.append_nil ys).symm ▸ c.nexted iM iD kI lo k) (st.chg _ _ _ j k (fun a e => .inr (.inr e)) lo)
  | cons v vs ih =>
    intro i s ys zs hle hi hr hl hz c t j hR
    refine codeAny_of_tree ?_
    show wpAny (model prog w) A ((compTurn (.ListComp elt gens scope pos) d (.ref I) (.ref D) env).onRaise (fun x => do noteFrame x env; theTreesLotGoes x)) _ _ s
    refine wpAny_noted ?_
    rw [compTurn_last hg hg']
    obtain ⟨hlt, hi2⟩ := drop_at hi
    obtain ⟨oI, hoI', hmI, hnI⟩ := t.at_
    have lo : Loose s.heap P (· = I) := fun b o e q => by subst e; rw [hoI'] at q; cases q; exact ⟨pI, hmI⟩
    refine wpAny_bind (wpAny_standAt (wpAny_bind (it_next hi2.2 pI t fun val h1 tk1 t1 k1 r1 => ?_)))
    have c1 := c.nexted iM iD kI lo k1
    have j1 := st.chg _ _ _ j k1 (fun a e => .inr (.inr e)) lo
    dsimp only
    refine wpAny_bind (ownedGo (s := { s with heap := h1, toks := tk1 }) t1 ?_)
    cases hr with
    | @step _ _ b t' ys1 _ hb hn hif hys hy =>
    obtain ⟨f1, F1⟩ := c1.frame
    have hN' : ∀ p ∈ b, N p.1 := fun p m => hN _ (hn p m)
    refine wpAny_bind (assign_sound (s := { s with heap := h1, toks := tk1 }) hb ro.handled r1 F1 hN' fx.pM fun h2 tk2 f2 F2 k2 hf2 hb2 => ?_)
    have lo2 := F1.loose fx.pM
    have c2 := c1.stored fx iM F2 k2
    have j2 := st.chg _ _ _ j1 k2 (fun a e => .inl e) lo2
    have t2 := t1.chg k2 lo2 iM (fun e => by rw [hoI] at e; cases e)
    have er2 : EnvRel env (b ++ ρ) h2 P := er_bound hb2 (fun x u q => F2.nameIs (hN' _ (lookup_mem q))) (hJ h2 j2)
    have aI : ∀ {h : Heap} {n : Nat}, ItSt items I P It n h → h.get? I ≠ none := fun {h n} t => t.alive
    refine wpAny_bind (ifs_sound hif ro ok (s := { s with heap := h2, toks := tk2 }) c2.good (c2.fresh.alive (aI t2)) er2 fun h3 tk3 x3 g3 => ?_)
    have c3 := c2.ext x3 g3
    have t3 := t2.ext x3
    have j3 := st.ext _ _ j2 x3
    rcases hy with ⟨rfl, y, rfl, hy⟩ | ⟨rfl, rfl⟩
    · rw [if_pos rfl]
      refine wpAny_bind (wpAny_bind (hy A { s with heap := h3, toks := tk3 } P _ _ env ro g3 (c3.fresh.alive (aI t3)) ok (er2.ext x3) fun h4 tk4 yv x4 g4 r4 => ?_))
      have c4 := c3.ext x4 g4
      have t4 := t3.ext x4
      have j4 := st.ext _ _ j3 x4
      obtain ⟨f4, F4⟩ := c4.frame
      obtain ⟨vals, hL, a2⟩ := c4.acc
      have hsz : vals.size ≤ sizeLine := by
        have e1 : vals.size = ys.length := a2.length
        rw [e1]
        exact Nat.le_trans (by rw [List.length_append]; exact Nat.le_add_right _ _) hl
      refine wpAny_bind (wpAny_list_append hL (fun h5 hL5 hs5 => wpAny_pure (wpAny_pure ⟨rfl, ?_⟩)) hsz)
      have k5 : Chg (· = D) h4 h5 := fun b o hb e => (hs5.2 b hb).trans e
      have hyo : notOwn y = true := hz y (List.mem_cons_self ..)
      have lo5 : Loose h4 P (· = D) := loose_list fx.pD hL
      have c5 : CompSt K P env N D I (ys ++ [y]) h5 := by
        refine ⟨⟨f4, F4.chg k5 fun a m e => fx.dM (e ▸ m)⟩, ⟨_, hL5, ?_⟩, ?_, g4.chg k5 (fun b o m e => (lo5 b o m e).2) (fun b m => by rw [m]; exact fx.kD), fun a e => ?_⟩
        · rw [Array.toList_push]
          exact (a2.rvChg k5 lo5 c4.own).append (.cons (RV.chg' k5 lo5 hyo r4) .nil)
        · intro z m
          rcases List.mem_append.mp m with m | m
          · exact c4.own z m
          · rw [List.mem_singleton.mp m]; exact hyo
        · cases q : h4.get? a with
          | none => exact c4.fresh a q
          | some o' =>
            exfalso
            by_cases m : a = D
            · subst m
              obtain ⟨o2, h2', _⟩ := hL5
              rw [e] at h2'; cases h2'
            · rw [k5 a o' m q] at e; cases e
      have t5 := t4.chg k5 lo5 iD (fun e => by rw [hoI] at e; cases e)
      refine ih (i + 1) { s with heap := h5, toks := tk4 } (ys ++ [y]) ys1 hlt hi2.1 hys (app_cons ▸ hl) (fun z m => hz z (List.mem_cons_of_mem _ m)) c5 t5 (st.chg _ _ _ j4 k5 (fun a e => .inr (.inl e)) lo5) fun h' tk c' j' => hR h' tk (app_cons ▸ c') j'
    · rw [if_neg Bool.false_ne_true]
      refine wpAny_pure ⟨rfl, ?_⟩
      exact ih (i + 1) { s with heap := h3, toks := tk3 } ys zs hlt hi2.1 hys hl hz c3 t3 j3 fun h' tk c' j' => hR h' tk c' j'
end
end Mine
namespace Mine
open PySem PySem.Spec PySem.Calls PySem.W PyProof.Rows
open PySem.Builtin PySem.Builtin.Str

theorem nodup_mem : ∀ {l : Sc} {x : Str} {k : NameKind}, nodupN l = true → (x, k) ∈ l → l.lookup x = some k
  | [], _, _, _, m => nomatch m
  | (y, c) :: l, x, k, h, m => by
    unfold nodupN at h
    rw [Bool.and_eq_true] at h
    rcases List.mem_cons.mp m with e | m'
    · cases e; simp
    · have ne : x ≠ y := fun e => by
        subst e
        have := lookup_none_mem (by simpa using h.1) k
        exact this m'
      have : (x == y) = false := by simpa using ne
      rw [List.lookup_cons, this]
      exact nodup_mem h.2 m'

theorem relabel_other {env : Env} : ∀ {names : Sc} {x : Str} {k : NameKind}, k ≠ .free → names.lookup x = some k →
    (names.map fun (n, k) => if (k == NameKind.free && env.scope.kind == .function && env.kindOf n == some .cell) then (n, NameKind.cell) else (n, k)).lookup x = some k
  | [], _, _, _, h => by simp at h
  | (n, k') :: r, x, k, hk, h => by
    have ih := @relabel_other env r x k hk
    show List.lookup x ((if (k' == NameKind.free && env.scope.kind == .function && env.kindOf n == some .cell) = true then (n, NameKind.cell) else (n, k')) :: _) = _
    cases hx : x == n with
    | true =>
      simp only [List.lookup_cons, hx] at h
      cases h
      have : (k' == NameKind.free) = false := by simpa using hk
      simp [List.lookup_cons, hx, this]
    | false =>
      simp only [List.lookup_cons, hx] at h
      split <;> (simp only [List.lookup_cons, hx]; exact ih h)
theorem relabel_free {env : Env} : ∀ {names : Sc} {x : Str}, names.lookup x = some .free →
    (names.map fun (n, k) => if (k == NameKind.free && env.scope.kind == .function && env.kindOf n == some .cell) then (n, NameKind.cell) else (n, k)).lookup x = some .cell ∨
    (names.map fun (n, k) => if (k == NameKind.free && env.scope.kind == .function && env.kindOf n == some .cell) then (n, NameKind.cell) else (n, k)).lookup x = some .free
  | [], _, h => by simp at h
  | (n, k') :: r, x, h => by
    have ih := @relabel_free env r x
    show List.lookup x ((if (k' == NameKind.free && env.scope.kind == .function && env.kindOf n == some .cell) = true then (n, NameKind.cell) else (n, k')) :: _) = _ ∨ List.lookup x ((if (k' == NameKind.free && env.scope.kind == .function && env.kindOf n == some .cell) = true then (n, NameKind.cell) else (n, k')) :: _) = _
    cases hx : x == n with
    | true =>
      simp only [List.lookup_cons, hx] at h
      cases h
      split <;> simp [List.lookup_cons, hx]
    | false =>
      simp only [List.lookup_cons, hx] at h
      split <;> (simp only [List.lookup_cons, hx]; exact ih h)

theorem FrameAt.move {env env' : Env} {N : Str → Prop} {h : Heap} {f : Str → Option Value} (F : FrameAt env N h f) (h1 : env'.scope.kind = .function) (h2 : ∀ x, N x → env'.kindOf x = env.kindOf x) (h3 : env'.locals = env.locals) (h4 : env'.cells = env.cells) :
    FrameAt env' N h f := by
  refine ⟨h1, fun x hx => by rw [h2 x hx]; exact F.kinds x hx, ?_, fun x hx hk => ?_, fun x y c hx hy kx ky cx cy => ?_⟩
  · obtain ⟨m, a, b⟩ := F.ns
    exact ⟨m, by rw [h3]; exact a, fun x hx hk => b x hx (by rw [← h2 x hx]; exact hk)⟩
  · rw [h4]; exact F.cell x hx (by rw [← h2 x hx]; exact hk)
  · rw [h4] at cx cy
    exact F.inj x y c hx hy (by rw [← h2 x hx]; exact kx) (by rw [← h2 y hy]; exact ky) cx cy

section
variable {w : World} {K : Frag} {l : Nat} {A : Around} {R : Result → Shared → Prop} {s : Shared}

theorem comp_start {elt : Expr} {gens : List Comprehension} {scope : Scope} {pos : Pos} {d : Nat} {target iter : Expr} {ifs : List Expr} (hg : gens[d]? = some ⟨target, iter, ifs, 0⟩) {it acc : Value} {env : Env}
    (h0 : codeAny (model prog w) A (.compLoop (.ListComp elt gens scope pos) d it acc env) R s)
    (h : wpAny (model prog w) A (pyIter it) (fun it' s' => codeAny (model prog w) A (.compLoop (.ListComp elt gens scope pos) d it' acc env) R s') (notedBy (model prog w) A env fun x s' => R (.error x) s') s) :
    codeAny (model prog w) A (.compStart (.ListComp elt gens scope pos) d it acc env) R s := by
  refine codeAny_of_tree ?_
  show wpAny (model prog w) A ((compStart (.ListComp elt gens scope pos) d it acc env).onRaise (fun x => do noteFrame x env; standAt theWindowsPlace)) _ _ s
  refine wpAny_notedAt ?_
  unfold compStart
  have hc : (clausesOf (.ListComp elt gens scope pos))[d]? = some ⟨target, iter, ifs, 0⟩ := hg
  simp only [hc, Option.elim_some, bne_self_eq_false, Bool.false_eq_true, if_false]
  refine wpAny_bind (wpAny_askSetting (wpAny_ite ?_))
  split
  · exact wpAny_pure (And.intro rfl h0)
  · refine wpAny_bind (wpAny_rule (wpAny_bind (wpAny_standAt (wpAny_bind (wpAny_mono h (fun it' s' h' => wpAny_pure (And.intro rfl h')) fun _ _ x => x)))))

structure CompEnd (K : Frag) (P : Addr → Prop) (v : V) (s : Shared) (D C : Addr) (h' : Heap) : Prop where
  ext : Ext s.heap h'
  good : Good K h'
  rv : RV h' (fun a => P a ∧ a ≠ C) v (.ref D)
  ns : ∃ m, h'.Ns C m
  fresh : s.heap.get? C = none

theorem CompEnd.gone {P : Addr → Prop} {v : V} {D C : Addr} {h' h'' : Heap} (g : Good K s.heap) (c : CompEnd K P v s D C h') (k : Heap.SameBut C h' h'') : Ext s.heap h'' ∧ Good K h'' ∧ RV h'' P v (.ref D) := by
  obtain ⟨m, ⟨o, es, ep, ho, hd, _⟩⟩ := c.ns
  have k' : Chg (· = C) h' h'' := fun b o hb e => (k.2 b hb).trans e
  have lo : Loose h' (fun a => P a ∧ a ≠ C) (· = C) := fun b o' e q => by subst e; rw [ho] at q; cases q; exact ⟨fun z => z.2 rfl, .dict hd⟩
  refine ⟨c.ext.chg k' fun b e => by rw [e]; exact c.fresh, c.good.chg k' (fun b o m e => (lo b o m e).2) (fun b e => by rw [e]; exact lookup_none_of_fresh g.inn c.fresh), ?_⟩
  refine RV.mono (fun a q => q.1) (RV.chg k' lo ?_ c.rv)
  intro b o' e q vs n z
  subst e; rw [ho] at q; cases q; rw [hd] at z; cases z

theorem pack_own {zs : List V} {v : V} (e : PackR zs v) : ∀ z ∈ zs, notOwn z = true := by
  intro z m
  cases e <;> (obtain ⟨x, _, rfl⟩ := List.mem_map.mp m; rfl)
theorem all2_d {h : Heap} {P : Addr → Prop} {xs : List PyData} {vals : List Value} (a : All2 (RV h P) (xs.map .d) vals) : RdAll h P xs vals := by
  induction xs generalizing vals with
  | nil => cases a; exact RdAll.nil
  | cons x xs ih => cases a with | cons r q => exact RdAll.cons r (ih q)
theorem all2_ws {h : Heap} {P : Addr → Prop} {xs : List Str} {vals : List Value} (a : All2 (RV h P) (xs.map .ws) vals) : All2 (WsAt h P) xs vals := by
  induction xs generalizing vals with
  | nil => cases a; exact .nil
  | cons x xs ih => cases a with | cons r q => exact .cons r (ih q)
theorem pack_sound {h : Heap} {P : Addr → Prop} {zs : List V} {v : V} {D : Addr} {vals : Array Value} (e : PackR zs v) (hl : h.IsList D vals) (a : All2 (RV h P) zs vals.toList) (p : P D) : RV h P v (.ref D) := by
  cases e with
  | d => exact Rd.list hl p (all2_d a)
  | ws => exact ⟨D, vals, rfl, p, hl, all2_ws a⟩

theorem inner_lookup {inner : Sc} {ρ : Rho} {x : Str} {v : V} (e : (innerRho inner ρ).lookup x = some v) : inner.lookup x = some .free ∧ ρ.lookup x = some v := by
  induction ρ with
  | nil => cases e
  | cons p ρ ih =>
    obtain ⟨y, u⟩ := p
    unfold innerRho at e
    rw [List.filter_cons] at e
    cases hy : inner.lookup y == some .free with
    | true =>
      rw [if_pos hy] at e
      cases q : x == y with
      | true =>
        rw [List.lookup_cons, q] at e ⊢
        rw [eq_of_beq q]
        exact ⟨eq_of_beq hy, e⟩
      | false =>
        rw [List.lookup_cons, q] at e ⊢
        exact ih e
    | false =>
      rw [if_neg (ne_true_of_eq_false hy)] at e
      obtain ⟨h1, h2⟩ := ih e
      refine ⟨h1, ?_⟩
      cases q : x == y with
      | true => rw [eq_of_beq q, ] at h1; rw [h1] at hy; cases hy
      | false => rw [List.lookup_cons, q]; exact h2

theorem ok_own {scope : Scope} (x : Str) (q : nameOkIn scope.names x = true) : OwnName scope x := by
  unfold nameOkIn at q
  rw [Bool.or_eq_true] at q
  exact q.imp eq_of_beq eq_of_beq
end
end Mine
namespace Mine
open PySem PySem.Spec PySem.Calls PySem.W PyProof.Rows
open PySem.Builtin PySem.Builtin.Str

theorem ItSt.mono {items : List V} {I : Addr} {P P' : Addr → Prop} {D : ItD} {i : Nat} {h : Heap} (k : ∀ a, P a → P' a) (t : ItSt items I P D i h) : ItSt items I P' D i h := by
  cases D with
  | lst ax vals own => obtain ⟨h0, h1, h2, h3, h4⟩ := t; exact ⟨h0, h1, h2.imp fun _ _ => RV.mono k, fun e => k _ (h3 e), h4⟩
  | tup ax vals => obtain ⟨h0, h1, h2, h4⟩ := t; exact ⟨h0, h1, h2.imp fun _ _ => RV.mono k, h4⟩
  | str ty x t' => exact t
  | rng a b => exact t
theorem ItSt.strong {items : List V} {I : Addr} {P P' : Addr → Prop} {D : ItD} {i : Nat} {h : Heap} (k : ∀ a, P a → h.get? a ≠ none → P' a) (t : ItSt items I P D i h) : ItSt items I P' D i h := by
  cases D with
  | lst ax vals own =>
    obtain ⟨h0, ⟨o, ho, r⟩, h2, h3, h4⟩ := t
    exact ⟨h0, ⟨o, ho, r⟩, h2.imp fun _ _ => RV.strong k, fun e => k _ (h3 e) (by rw [ho]; exact fun e => nomatch e), h4⟩
  | tup ax vals => obtain ⟨h0, h1, h2, h4⟩ := t; exact ⟨h0, h1, h2.imp fun _ _ => RV.strong k, h4⟩
  | str ty x t' => exact t
  | rng a b => exact t

section
variable {w : World} {K : Frag} {l : Nat} {A : Around} {s : Shared} {P : Addr → Prop} {E : Value → Shared → Prop} {env : Env} {sc : Sc} {ρ : Rho}

def PlainIter (iter : Expr) : Prop := ∀ env x, foldedSetIterable iter env x = pure x

/-- what a comprehension's loop is given -/
structure LoopIn (K : Frag) (P : Addr → Prop) (env : Env) (scope : Scope) (D I : Addr) (h₀ : Heap) (ρ : Rho) : Prop where
  ok : EnvOk env scope.names
  fx : CompFix K P env (OwnName scope) D
  pI : ¬ P I
  iM : ¬ Mu env (OwnName scope) I
  iD : I ≠ D
  kI : K.lookup I = none
  fresh : ∀ a, Mu env (OwnName scope) a ∨ a = D ∨ a = I → h₀.get? a = none
  er : EnvRel env ρ h₀ P

theorem comp_open {elt target iter : Expr} {ifs : List Expr} {gs : List Comprehension} {scope : Scope} {pos pos' : Pos} {v0 vR : V} {items zs : List V} {use : Option (Value → Sem Unit)} {Q : Value → Shared → Prop}
    (hk : scope.kind = .function) (hfree : freeOk scope.names sc = true) (hnd : nodupN scope.names = true) (hset : PlainIter iter) (hiter : Ev w K l sc ρ iter v0) (hown : notOwn v0 = true) (hitems : ItemsR v0 items) (hpack : PackR zs vR)
    (ro : Room l A) (g : Good K s.heap) (f : FreshOk P s.heap) (ok : EnvOk env sc) (er : EnvRel env ρ s.heap P)
    (loop : ∀ (env' : Env) (D I : Addr) (It : ItD) (P' : Addr → Prop) (h₀ : Heap) (s4 : Shared) (R : Result → Shared → Prop), LoopIn K P' env' scope D I h₀ (innerRho scope.names ρ) → ownIt It = false → Ext h₀ s4.heap →
      CompSt K P' env' (OwnName scope) D I [] s4.heap → ItSt items I P' It 0 s4.heap →
      (∀ h' tk, CompSt K P' env' (OwnName scope) D I zs h' → Ext h₀ h' → R (.ok .next) { s4 with heap := h', toks := tk }) →
      codeAny (model prog w) A (.compLoop (.ListComp elt (⟨target, iter, ifs, 0⟩ :: gs) scope pos) 0 (.ref I) (.ref D) env') R s4)
    (hend : ∀ D C h' tk, CompEnd K P vR s D C h' → compPost (model prog w) A E use Q (.ref D) C (.ok .next) { s with heap := h', toks := tk }) :
    wpAny (model prog w) A (comprehension (.ListComp elt (⟨target, iter, ifs, 0⟩ :: gs) scope pos) scope env pos' (newList []) false (eval iter env) use) Q E s := by
  have hfr : ∀ x, (x, NameKind.free) ∈ scope.names → (env.kindOf x = some .cell ∨ env.kindOf x = some .free) ∧ ∃ c, env.cells.lookup x = some c := fun x m => by
    unfold freeOk at hfree
    have := List.all_eq_true.mp hfree _ m
    simp at this
    exact ok.cell x this
  obtain ⟨cl, hcl, hclx⟩ := closure_sound fun x m => (hfr x m).2
  refine wpAny_comprehension_free rfl (hset _) hcl hk (fun x hx hl => by rw [nodup_mem hnd (show (x.1, x.2) ∈ scope.names from hx), hl]) ?_
  refine hiter A s P _ E env ro g f ok er ?_
  intro h1 tk1 val1 x1 g1 r1
  have r1a : RV h1 (fun a => P a ∧ h1.get? a ≠ none) v0 val1 := RV.strong (fun a p q => ⟨p, q⟩) r1
  refine it_make (s := { s with heap := h1, toks := tk1 }) hitems g1 r1a fun It oI tI hoI => ?_
  have hoI' : ownIt It = false := by
    cases q : ownIt It with
    | false => rfl
    | true => rw [hown] at hoI; exact absurd (hoI q) (by decide)
  refine wpAny_newObj_type ?_
  refine newEnv_sound (s := { s with heap := (h1.push oI).push { cls := .type "list", data := .seq #[] }, toks := tk1 }) hk (fun p m => nomatch m) ?_
  intro cells h4 tk4 F
  -- the addresses
  generalize hH2 : h1.push oI = H2 at F tI ⊢
  have s2 : H2.objs.size = h1.objs.size + 1 := by rw [← hH2, Heap.size_push]
  generalize hH3 : H2.push { cls := .type "list", data := .seq #[] } = H3 at F ⊢
  have keep2 : ∀ b o, h1.get? b = some o → H2.get? b = some o := fun b o e => by rw [← hH2]; exact Heap.get?_push_of_some _ e
  have keep3 : ∀ b o, H2.get? b = some o → H3.get? b = some o := fun b o e => by rw [← hH3]; exact Heap.get?_push_of_some _ e
  have gD : H3.get? H2.objs.size = some { cls := .type "list", data := .seq #[] } := by rw [← hH3]; exact Heap.get?_push_size _ rfl
  obtain ⟨oIt, goI, _⟩ := tI.at_
  dsimp only at F goI tI ⊢
  generalize hE : newEnv scope H3.objs.size env.globals cells env.qual none .none (some env) builtinsNs = env0 at F ⊢
  have e1 : env0.scope = scope := by rw [← hE]; rfl
  have e2 : env0.globals = env.globals := by rw [← hE]; rfl
  have e3 : env0.builtins = env.builtins := by rw [← hE]; rfl
  have ek : ∀ x, env0.kindOf x = scope.names.lookup x := fun x => by unfold Env.kindOf; rw [e1]
  have ek' : ∀ x k, k ≠ .free → scope.names.lookup x = some k → Env.kindOf { env0 with scope := relabel scope env } x = some k := fun x k hk e => relabel_other hk e
  have F4 : FrameAt { env0 with scope := relabel scope env } (OwnName scope) h4 (([] : List (Str × Value)).foldl (fun f p => fun y => if y = p.1 then some p.2 else f y) fun _ => none) := by
    refine F.frame.move hk (fun x hx => ?_) rfl rfl
    rw [ek]
    rcases hx with q | q
    · rw [q]; exact ek' x _ (by decide) q
    · rw [q]; exact ek' x _ (by decide) q
  have mu0 : ∀ a, Mu { env0 with scope := relabel scope env } (OwnName scope) a → H3.get? a = none := by
    intro a m
    refine F.fresh a ?_
    rcases m with m | ⟨x, hx, kx, cx⟩
    · exact .inl m
    · refine .inr ⟨x, hx, ?_, cx⟩
      rw [ek]
      rcases hx with q | q
      · have := ek' x _ (by decide) q
        rw [kx] at this; cases this
      · exact q
  have frI : h1.get? h1.objs.size = none := fresh_none _
  have frD : H2.get? H2.objs.size = none := fresh_none _
  have dn : ∀ {a : Addr}, H2.get? a = none → h1.get? a = none := fun {a} e => by
    cases q : h1.get? a with
    | none => rfl
    | some o => rw [keep2 _ _ q] at e; cases e
  have dn3 : ∀ {a : Addr}, H3.get? a = none → H2.get? a = none := fun {a} e => by
    cases q : H2.get? a with
    | none => rfl
    | some o => rw [keep3 _ _ q] at e; cases e
  have iD : h1.objs.size ≠ H2.objs.size := by rw [s2]; exact Nat.ne_of_lt (Nat.lt_succ_self _)
  have dM : ¬ Mu { env0 with scope := relabel scope env } (OwnName scope) H2.objs.size := fun m => by have := mu0 _ m; rw [gD] at this; cases this
  have iM : ¬ Mu { env0 with scope := relabel scope env } (OwnName scope) h1.objs.size := fun m => by have := mu0 _ m; rw [keep3 _ _ goI] at this; cases this
  have x4 : Ext h1 h4 := .of_keep fun b o e => F.old b o (keep3 _ _ (keep2 _ _ e))
  have g2 : Good K H2 := by rw [← hH2]; exact g1.push _
  have g3 : Good K H3 := by rw [← hH3]; exact g2.push _
  have g4 : Good K h4 := g3.keep F.old
  let P' : Addr → Prop := fun a => P a ∧ a ≠ h1.objs.size ∧ a ≠ H2.objs.size ∧ ¬ Mu { env0 with scope := relabel scope env } (OwnName scope) a
  have toP : ∀ a, P a → h1.get? a ≠ none → P' a := fun a p q => ⟨p, fun e => q (by rw [e]; exact frI), fun e => q (by rw [e]; exact dn frD), fun m => q (dn (dn3 (mu0 a m)))⟩
  have LI : LoopIn K P' { env0 with scope := relabel scope env } scope H2.objs.size h1.objs.size h1 (innerRho scope.names ρ) := by
    refine ⟨⟨hk, e2.trans ok.globals, e3.trans ok.builtins, fun x hx => ek' x _ (by decide) hx, fun x hx => ?_⟩, ⟨fun p => p.2.2.1 rfl, fun a m p => p.2.2.2 m, dM, lookup_none_of_fresh g2.inn frD, fun a m => lookup_none_of_fresh g3.inn (mu0 a m)⟩,
      fun p => p.2.1 rfl, iM, iD, lookup_none_of_fresh g1.inn frI, fun a m => ?_, ?_⟩
    · rcases hx with hx | hx
      · have q := ek' x _ (by decide) hx
        obtain ⟨c, o, h1', _⟩ := F4.cell x (.inr hx) q
        exact ⟨.inl q, c, h1'⟩
      · refine ⟨relabel_free hx, ?_⟩
        obtain ⟨c, hc⟩ := (hfr x (lookup_mem hx)).2
        refine ⟨c, ?_⟩
        show env0.cells.lookup x = some c
        rw [F.clos x (fun m => by rw [nodup_mem hnd m] at hx; cases hx), hclx x (lookup_mem hx), hc]
    · rcases m with m | rfl | rfl
      · exact dn (dn3 (mu0 a m))
      · exact dn frD
      · exact frI
    · intro x v hx
      obtain ⟨hx1, hx2⟩ := inner_lookup hx
      obtain ⟨val, n, r⟩ := (er.ext x1) x v hx2
      refine ⟨val, ?_, RV.strong toP r⟩
      obtain ⟨kx, c, hc⟩ := hfr x (lookup_mem hx1)
      rcases n with ⟨q, _⟩ | ⟨_, c', o, h1', h2', h3', h4'⟩
      · rcases kx with kx | kx <;> (rw [q] at kx; cases kx)
      · refine .inr ⟨relabel_free hx1, c', o, ?_, h2', h3', h4'⟩
        show env0.cells.lookup x = some c'
        rw [F.clos x (fun m => by rw [nodup_mem hnd m] at hx1; cases hx1), hclx x (lookup_mem hx1), h1']
  have C4 : CompSt K P' { env0 with scope := relabel scope env } (OwnName scope) H2.objs.size h1.objs.size [] h4 := by
    refine ⟨⟨_, F4⟩, ⟨#[], ⟨_, F.old _ _ gD, rfl, 0, rfl⟩, .nil⟩, fun _ m => (nomatch m), g4, fun a e => ?_⟩
    by_cases ha : a = h1.objs.size
    · exact .inr ha
    · refine .inl ⟨(f.ext x1) a (x4.none e), ha, fun q => ?_, fun m => ?_⟩
      · rw [q, F.old _ _ gD] at e; cases e
      · obtain ⟨o, ho, _⟩ := F4.mu m
        rw [e] at ho; cases ho
  have I4 : ItSt items h1.objs.size P' It 0 h4 := ItSt.ext (.of_keep fun b o e => F.old b o (keep3 _ _ e)) (ItSt.mono (fun a p => toP a p.1 p.2) tI)
  have hC : (newEnv scope H3.objs.size env.globals cells env.qual none .none (some env) builtinsNs).locals = env0.locals := by rw [hE]
  have body : codeAny (model prog w) A (.compLoop (.ListComp elt (⟨target, iter, ifs, 0⟩ :: gs) scope pos) 0 (.ref h1.objs.size) (.ref H2.objs.size) { env0 with scope := relabel scope env }) (compPost (model prog w) A E use Q (.ref H2.objs.size) env0.locals)
      { s with heap := h4, toks := tk4 } := by
    refine loop _ _ _ It P' h1 { s with heap := h4, toks := tk4 } _ LI hoI' x4 C4 I4 fun h' tk c x => ?_
    refine hend H2.objs.size env0.locals h' tk ⟨x1.trans x, c.good, ?_, ?_, ?_⟩
    · obtain ⟨vals, hl, a2⟩ := c.acc
      refine pack_sound hpack hl (a2.imp fun _ _ => RV.mono fun a p => ⟨p.1, fun e => p.2.2.2 (.inl e)⟩) ⟨(f.ext x1) _ (dn frD), fun e => dM (.inl e)⟩
    · obtain ⟨f', F'⟩ := c.frame
      obtain ⟨m, a, _⟩ := F'.ns
      exact ⟨m, a⟩
    · exact x1.none (dn (dn3 (mu0 _ (.inl rfl))))
  exact comp_start (d := 0) rfl body (it_self (s := { s with heap := h4, toks := tk4 }) I4 body)

theorem stab_ext {P' : Addr → Prop} {env' : Env} {scope : Scope} {D I : Addr} {h₀ : Heap} (fr : ∀ a, Mu env' (OwnName scope) a ∨ a = D ∨ a = I → h₀.get? a = none) : Stab P' env' (OwnName scope) D I (Ext h₀) :=
  ⟨fun _ _ j x => j.trans x, fun _ _ X j k hX _ => j.chg k fun b m => fr b (hX b m)⟩

/-- a comprehension with one clause -/
theorem comp_one {elt target iter : Expr} {ifs : List Expr} {scope : Scope} {pos pos' : Pos} {v0 vR : V} {items zs : List V} {use : Option (Value → Sem Unit)} {Q : Value → Shared → Prop}
    (hk : scope.kind = .function) (hfree : freeOk scope.names sc = true) (hnd : nodupN scope.names = true) (hset : PlainIter iter) (hiter : Ev w K l sc ρ iter v0) (hown : notOwn v0 = true) (hitems : ItemsR v0 items)
    (hrun : CompR w K l elt target ifs scope.names (innerRho scope.names ρ) items zs) (hlen : short zs.length = true) (hpack : PackR zs vR)
    (ro : Room l A) (g : Good K s.heap) (f : FreshOk P s.heap) (ok : EnvOk env sc) (er : EnvRel env ρ s.heap P)
    (hend : ∀ D C h' tk, CompEnd K P vR s D C h' → compPost (model prog w) A E use Q (.ref D) C (.ok .next) { s with heap := h', toks := tk }) :
    wpAny (model prog w) A (comprehension (.ListComp elt [⟨target, iter, ifs, 0⟩] scope pos) scope env pos' (newList []) false (eval iter env) use) Q E s := by
  refine comp_open hk hfree hnd hset hiter hown hitems hpack ro g f ok er (fun env' D I It P' h₀ s4 R LI hoI x4 C4 I4 hR => ?_) hend
  exact comp_inner (d := 0) rfl rfl ro LI.ok LI.fx LI.pI LI.iM LI.iD LI.kI (stab_ext LI.fresh) (fun h x => LI.er.ext x) ok_own hoI items 0 s4 [] zs (Nat.zero_le _) rfl hrun
    (short_line hlen) (pack_own hpack) C4 I4 x4 hR
end
end Mine
namespace Mine
open PySem PySem.Spec PySem.Calls PySem.W PyProof.Rows
open PySem.Builtin PySem.Builtin.Str

theorem compTurn_first {elt : Expr} {gens : List Comprehension} {scope : Scope} {pos : Pos} {d : Nat} {target iter t1 iter1 : Expr} {ifs ifs1 : List Expr} (h : gens[d]? = some ⟨target, iter, ifs, 0⟩) (h' : gens[d + 1]? = some ⟨t1, iter1, ifs1, 0⟩) (it acc : Value) (env : Env) :
    compTurn (.ListComp elt gens scope pos) d it acc env = (standAt iter.pos >>= fun _ => pyNext it >>= fun r => match r with
      | none => pure (.done .next)
      | some v => letOwnedTupleGo target it v >>= fun _ => assign target env v >>= fun _ =>
        (forIn ifs true fun c r => if r = true then do let ok ← isTrue c env (eval c env); pure (ForInStep.yield ok) else pure (ForInStep.yield r)) >>= fun ok =>
          if ok = true then eval iter1 env >>= fun x => standAt iter1.pos >>= fun _ => foldedSetIterable iter1 env x >>= fun x => holding [x] (pyIter x) >>= fun it' =>
            runOwn (.compStart (.ListComp elt gens scope pos) (d + 1) it' acc env) env >>= fun _ => again (.compLoop (.ListComp elt gens scope pos) d it acc env)
          else again (.compLoop (.ListComp elt gens scope pos) d it acc env)) := by
  unfold compTurn
  simp only [h, h']
  rfl

section
variable (w : World) (K : Frag) (l : Nat) (elt t0 : Expr) (ifs0 : List Expr) (t1 iter1 : Expr) (ifs1 : List Expr) (sc : Sc) (ρ : Rho)
/-- the turns of a comprehension with two clauses; the inner one does not look at the outer one's names; no test in the outer one -/
inductive CompR2 : List V → List V → Prop
  | nil : CompR2 [] []
  | step {v vs b u us ys1 zs1} (hb : BindR t0 v b) (hn : ∀ p ∈ b, nameOkIn sc p.1 = true) (hi : IfsR w K l sc (b ++ ρ) ifs0 true) (hu : Ev w K l sc (b ++ ρ) iter1 u) (hun : notOwn u = true) (hus : ItemsR u us)
    (hy : CompR w K l elt t1 ifs1 sc ρ us ys1) (q : CompR2 vs zs1) : CompR2 (v :: vs) (ys1 ++ zs1)
end

section
variable {w : World} {K : Frag} {l : Nat} {A : Around}

theorem comp_outer {elt : Expr} {scope : Scope} {pos : Pos} {t0 iter0 t1 iter1 : Expr} {ifs0 ifs1 : List Expr} {env : Env} {ρ : Rho} {D I : Addr} {It : ItD} {P : Addr → Prop} {items : List V} {h₀ : Heap} {R : Result → Shared → Prop}
    (ro : Room l A) (LI : LoopIn K P env scope D I h₀ ρ) (hset1 : PlainIter iter1) (hoI : ownIt It = false) :
    ∀ (vs : List V) (i : Nat) (s : Shared) (ys zs : List V), i ≤ items.length → items.drop i = vs → CompR2 w K l elt t0 ifs0 t1 iter1 ifs1 scope.names ρ vs zs → (ys ++ zs).length ≤ sizeLine → (∀ z ∈ zs, notOwn z = true) → CompSt K P env (OwnName scope) D I ys s.heap → ItSt items I P It i s.heap → Ext h₀ s.heap →
      (∀ h' tk, CompSt K P env (OwnName scope) D I (ys ++ zs) h' → Ext h₀ h' → R (.ok .next) { s with heap := h', toks := tk }) →
      codeAny (model prog w) A (.compLoop (.ListComp elt [⟨t0, iter0, ifs0, 0⟩, ⟨t1, iter1, ifs1, 0⟩] scope pos) 0 (.ref I) (.ref D) env) R s := by
  have st := stab_ext (P' := P) LI.fresh
  have fx := LI.fx
  intro vs
  induction vs with
  | nil =>
    intro i s ys zs hle hi hr hl hz c t j hR
    refine codeAny_of_tree ?_
    show wpAny (model prog w) A ((compTurn (.ListComp elt [⟨t0, iter0, ifs0, 0⟩, ⟨t1, iter1, ifs1, 0⟩] scope pos) 0 (.ref I) (.ref D) env).onRaise (fun x => do noteFrame x env; theTreesLotGoes x)) _ _ s
    refine wpAny_noted ?_
    rw [compTurn_first (d := 0) rfl rfl]
    cases hr
    obtain ⟨oI, hoI', hmI, _⟩ := t.at_
    have lo : Loose s.heap P (· = I) := fun b o e q => by subst e; rw [hoI'] at q; cases q; exact ⟨LI.pI, hmI⟩
    have hlen : items.length ≤ i := by simpa using hi
    refine wpAny_bind (wpAny_standAt (wpAny_bind (it_done ro.handled (Nat.le_antisymm hlen hle) t fun h' tk k => wpAny_pure ?_)))
    exact hR h' tk ((List.append_nil ys).symm ▸ c.nexted LI.iM LI.iD LI.kI lo k) (st.chg _ _ _ j k (fun a e => .inr (.inr e)) lo)
  | cons v vs ih =>
    intro i s ys zs hle hi hr hl hz c t j hR
    refine codeAny_of_tree ?_
    show wpAny (model prog w) A ((compTurn (.ListComp elt [⟨t0, iter0, ifs0, 0⟩, ⟨t1, iter1, ifs1, 0⟩] scope pos) 0 (.ref I) (.ref D) env).onRaise (fun x => do noteFrame x env; theTreesLotGoes x)) _ _ s
    refine wpAny_noted ?_
    rw [compTurn_first (d := 0) rfl rfl]
    obtain ⟨hlt, hi2⟩ := drop_at hi
    obtain ⟨oI, hoI', hmI, hnI⟩ := t.at_
    have lo : Loose s.heap P (· = I) := fun b o e q => by subst e; rw [hoI'] at q; cases q; exact ⟨LI.pI, hmI⟩
    refine wpAny_bind (wpAny_standAt (wpAny_bind (it_next hi2.2 LI.pI t fun val h1 tk1 t1' k1 r1 => ?_)))
    have c1 := c.nexted LI.iM LI.iD LI.kI lo k1
    have j1 := st.chg _ _ _ j k1 (fun a e => .inr (.inr e)) lo
    dsimp only
    refine wpAny_bind (ownedGo (s := { s with heap := h1, toks := tk1 }) t1' ?_)
    cases hr with
    | @step _ _ b u us ys1 zs1 hb hn hif hu hun hus hys1 hzs1 =>
    have hN : ∀ p ∈ b, OwnName scope p.1 := fun p m => ok_own _ (hn p m)
    obtain ⟨f1, F1⟩ := c1.frame
    refine wpAny_bind (assign_sound (s := { s with heap := h1, toks := tk1 }) hb ro.handled r1 F1 hN fx.pM fun h2 tk2 f2 F2 k2 hf2 hb2 => ?_)
    have lo2 := F1.loose fx.pM
    have c2 := c1.stored fx LI.iM F2 k2
    have j2 := st.chg _ _ _ j1 k2 (fun a e => .inl e) lo2
    have t2 := t1'.chg k2 lo2 LI.iM (fun e => by rw [hoI] at e; cases e)
    have er2 : EnvRel env (b ++ ρ) h2 P := er_bound hb2 (fun x u q => F2.nameIs (hN _ (lookup_mem q))) (LI.er.ext j2)
    have aI : ∀ {h : Heap} {n : Nat}, ItSt items I P It n h → h.get? I ≠ none := fun {h n} t => t.alive
    refine wpAny_bind (ifs_sound hif ro LI.ok (s := { s with heap := h2, toks := tk2 }) c2.good (c2.fresh.alive (aI t2)) er2 fun h3 tk3 x3 g3 => ?_)
    have c3 := c2.ext x3 g3
    have t3 := t2.ext x3
    rw [if_pos rfl]
    refine wpAny_bind (hu A { s with heap := h3, toks := tk3 } P _ _ env ro g3 (c3.fresh.alive (aI t3)) LI.ok (er2.ext x3) fun h4 tk4 uv x4 g4 r4 => ?_)
    have c4 := c3.ext x4 g4
    have t4 := t3.ext x4
    have j4 : Ext h₀ h4 := (j2.trans x3).trans x4
    have fr4 := c4.fresh.alive (aI t4)
    refine wpAny_bind (wpAny_standAt (wpAny_bind (wpAny_of_eq (hset1 _ uv) (wpAny_bind (wpAny_holding ?_)))))
    have r4a : RV h4 (fun a => P a ∧ h4.get? a ≠ none) u uv := RV.strong (fun a p q => ⟨p, q⟩) r4
    refine it_make (s := { s with heap := h4, toks := tk4 }) hus g4 r4a fun It1 o1 tI1 ho1 => ?_
    have ho1' : ownIt It1 = false := by
      cases q : ownIt It1 with
      | false => rfl
      | true => rw [hun] at ho1; exact absurd (ho1 q) (by decide)
    have fr1 : h4.get? h4.objs.size = none := fresh_none _
    let P1 : Addr → Prop := fun a => P a ∧ a ≠ h4.objs.size
    have toP : ∀ a, P a → h4.get? a ≠ none → P1 a := fun a p q => ⟨p, fun e => q (by rw [e]; exact fr1)⟩
    have x5 : Ext h4 (h4.push o1) := ext_push _ _
    obtain ⟨f4, F4⟩ := c4.frame
    obtain ⟨valsD, hLD, a2D⟩ := c4.acc
    have mAl : ∀ a, Mu env (OwnName scope) a → h4.get? a ≠ none := fun a m => by obtain ⟨o, ho, _⟩ := F4.mu m; rw [ho]; exact fun e => nomatch e
    have dAl : h4.get? D ≠ none := by obtain ⟨o, ho, _⟩ := hLD; rw [ho]; exact fun e => nomatch e
    have i1M : ¬ Mu env (OwnName scope) h4.objs.size := fun m => mAl _ m fr1
    have i1D : h4.objs.size ≠ D := fun e => dAl (e ▸ fr1)
    have i1I : I ≠ h4.objs.size := fun e => aI t4 (e ▸ fr1)
    have fx1 : CompFix K P1 env (OwnName scope) D := ⟨fun p => fx.pD p.1, fun a m p => fx.pM a m p.1, fx.dM, fx.kD, fx.kM⟩
    have c5 : CompSt K P1 env (OwnName scope) D h4.objs.size ys (h4.push o1) := by
      refine ⟨⟨f4, F4.ext x5⟩, ⟨valsD, x5.isList hLD, ?_⟩, c4.own, g4.push _, fun a e => ?_⟩
      · exact a2D.imp fun _ _ r => RV.ext x5 (RV.strong toP r)
      · by_cases q : a = h4.objs.size
        · exact .inr q
        · exact .inl ⟨fr4 a (x5.none e), q⟩
    have t5 : ItSt items I P1 It (i + 1) (h4.push o1) := ItSt.ext x5 (ItSt.strong toP t4)
    let J1 : Heap → Prop := fun h => Ext h₀ h ∧ ItSt items I P1 It (i + 1) h
    have st1 : Stab P1 env (OwnName scope) D h4.objs.size J1 := by
      refine ⟨fun h h' q x => ⟨q.1.trans x, q.2.ext x⟩, fun h h' X q k hX lo' => ⟨q.1.chg k fun b m => ?_, q.2.chg k lo' (fun m => ?_) (fun e => by rw [hoI] at e; cases e)⟩⟩
      · rcases hX b m with m | m | m
        · exact LI.fresh b (.inl m)
        · exact LI.fresh b (.inr (.inl m))
        · rw [m]; exact j4.none fr1
      · rcases hX I m with m | m | m
        · exact LI.iM m
        · exact LI.iD m
        · exact i1I m
    have er1 : ∀ h, J1 h → EnvRel env ρ h P1 := fun h q x v hx => by
      obtain ⟨val, n, r⟩ := LI.er x v hx
      refine ⟨val, n.ext q.1, RV.ext q.1 (RV.strong (fun a p q => ⟨p, fun e => q (by rw [e]; exact j4.none fr1)⟩) r)⟩
    have body : ∀ RR : Result → Shared → Prop, (∀ h6 tk6, CompSt K P1 env (OwnName scope) D h4.objs.size (ys ++ ys1) h6 → J1 h6 → RR (.ok .next) { s with heap := h6, toks := tk6 }) →
        codeAny (model prog w) A (.compLoop (.ListComp elt [⟨t0, iter0, ifs0, 0⟩, ⟨t1, iter1, ifs1, 0⟩] scope pos) 1 (.ref h4.objs.size) (.ref D) env) RR { s with heap := h4.push o1, toks := tk4 } := fun RR hRR =>
      comp_inner (d := 1) (target := t1) (iter := iter1) (ifs := ifs1) rfl rfl ro LI.ok fx1 (fun p => p.2 rfl) i1M i1D (lookup_none_of_fresh g4.inn fr1) st1 er1 ok_own ho1' us 0 { s with heap := h4.push o1, toks := tk4 } ys ys1 (Nat.zero_le _) rfl hys1
        (by simp only [List.length_append] at hl ⊢; omega) (fun z m => hz z (List.mem_append_left _ m)) c5 (ItSt.mono (fun a p => toP a p.1 p.2) tI1) ⟨j4.trans x5, t5⟩ hRR
    refine wpAny_bind (wpAny_runOwn ?_)
    have both : ∀ RR : Result → Shared → Prop, (∀ h6 tk6, CompSt K P1 env (OwnName scope) D h4.objs.size (ys ++ ys1) h6 → J1 h6 → RR (.ok .next) { s with heap := h6, toks := tk6 }) →
        codeAny (model prog w) A (.compStart (.ListComp elt [⟨t0, iter0, ifs0, 0⟩, ⟨t1, iter1, ifs1, 0⟩] scope pos) 1 (.ref h4.objs.size) (.ref D) env) RR { s with heap := h4.push o1, toks := tk4 } := fun RR hRR =>
      comp_start (d := 1) (target := t1) (iter := iter1) (ifs := ifs1) rfl (body RR hRR) (it_self (s := { s with heap := h4.push o1, toks := tk4 }) (ItSt.mono (P' := P1) (fun a p => toP a p.1 p.2) tI1) (body RR hRR))
    refine both _ fun h6 tk6 c6 j6 => ?_
    dsimp only
    refine wpAny_pure ⟨rfl, ?_⟩
    have c6' : CompSt K P env (OwnName scope) D I (ys ++ ys1) h6 := by
      refine ⟨c6.frame, let ⟨v, a, b⟩ := c6.acc; ⟨v, a, b.imp fun _ _ => RV.mono fun a p => p.1⟩, c6.own, c6.good, fun a e => ?_⟩
      rcases c6.fresh a e with q | q
      · exact .inl q.1
      · exact .inl (by rw [q]; exact fr4 _ fr1)
    exact ih (i + 1) { s with heap := h6, toks := tk6 } (ys ++ ys1) zs1 hlt hi2.1 hzs1 (by simpa using hl) (fun z m => hz z (List.mem_append_right _ m)) c6' (ItSt.mono (fun a p => p.1) j6.2) j6.1 fun h' tk c' j' => hR h' tk (by simpa using c') j'

variable {s : Shared} {P : Addr → Prop} {E : Value → Shared → Prop} {env : Env} {sc : Sc} {ρ : Rho}
theorem comp_two {elt t0 iter0 t1 iter1 : Expr} {ifs0 ifs1 : List Expr} {scope : Scope} {pos pos' : Pos} {v0 vR : V} {items zs : List V} {use : Option (Value → Sem Unit)} {Q : Value → Shared → Prop}
    (hk : scope.kind = .function) (hfree : freeOk scope.names sc = true) (hnd : nodupN scope.names = true) (hset : PlainIter iter0) (hset1 : PlainIter iter1) (hiter : Ev w K l sc ρ iter0 v0) (hown : notOwn v0 = true) (hitems : ItemsR v0 items)
    (hrun : CompR2 w K l elt t0 ifs0 t1 iter1 ifs1 scope.names (innerRho scope.names ρ) items zs) (hlen : short zs.length = true) (hpack : PackR zs vR)
    (ro : Room l A) (g : Good K s.heap) (f : FreshOk P s.heap) (ok : EnvOk env sc) (er : EnvRel env ρ s.heap P)
    (hend : ∀ D C h' tk, CompEnd K P vR s D C h' → compPost (model prog w) A E use Q (.ref D) C (.ok .next) { s with heap := h', toks := tk }) :
    wpAny (model prog w) A (comprehension (.ListComp elt [⟨t0, iter0, ifs0, 0⟩, ⟨t1, iter1, ifs1, 0⟩] scope pos) scope env pos' (newList []) false (eval iter0 env) use) Q E s := by
  refine comp_open hk hfree hnd hset hiter hown hitems hpack ro g f ok er (fun env' D I It P' h₀ s4 R LI hoI x4 C4 I4 hR => ?_) hend
  exact comp_outer ro LI hset1 hoI items 0 s4 [] zs (Nat.zero_le _) rfl hrun (short_line hlen) (pack_own hpack) C4 I4 x4 (by simpa using hR)
end
end Mine
namespace Mine
open PySem PySem.Spec PySem.Calls PySem.W PyProof.Rows
open PySem.Builtin PySem.Builtin.Str

/-! ## the rules of expressions -/
section
variable {w : World} {K : Frag} {l : Nat} {sc : Sc} {ρ : Rho} {p q : Pos}

theorem ev_int {i : Int} {a} : Ev w K l sc ρ (.Constant (.int i) a p) (.d (.int i)) := fun A s P Q E env ro g f ok er o => wpAny_Constant_int (o.here g (Rd.int _ _))
theorem ev_str {i : Str} {a} : Ev w K l sc ρ (.Constant (.str i) a p) (.d (.str i)) := fun A s P Q E env ro g f ok er o => wpAny_Constant_str (o.here g (Rd.str _ _))
theorem ev_bool {i : Bool} {a} : Ev w K l sc ρ (.Constant (.bool i) a p) (.d (.bool i)) := fun A s P Q E env ro g f ok er o => wpAny_Constant_bool (o.here (tk := s.toks) g (Rd.bool _))
theorem ev_name {x : Str} {v : V} (h1 : (x == ("__debug__" : Str)) = false) (h2 : (x == ("__classdict__" : Str)) = false) (h : ρ.lookup x = some v) : Ev w K l sc ρ (.Name x p) v := fun A s P Q E env ro g f ok er o => by
  obtain ⟨val, n, r⟩ := er x _ h
  exact wpAny_Name (load_name ok n h2 (o.here (tk := s.toks) g r)) h1
theorem ev_glob {x : Str} {v : V} (h1 : (x == ("__debug__" : Str)) = false) (hg : sc.lookup x = some .globalImplicit) (h : GlobOk K x v) : Ev w K l sc ρ (.Name x p) v := fun A s P Q E env ro g f ok er o => by
  obtain ⟨val, n, r⟩ := h s.heap g
  exact wpAny_Name (load_glob ok hg n (o.here (tk := s.toks) g (r P))) h1
theorem ev_bin {a b : Expr} {op} {va vb v : V} (ha : Ev w K l sc ρ a va) (hb : Ev w K l sc ρ b vb) (h : BinR op va vb v) : Ev w K l sc ρ (.BinOp a op b p) v := fun A s P Q E env ro g f ok er o => by
  refine wpAny_BinOp (ha A s P _ E env ro g f ok er fun h1 tk1 u1 x1 g1 r1 => ?_)
  refine hb A { s with heap := h1, toks := tk1 } P _ E env ro g1 (f.ext x1) ok (er.ext x1) fun h2 tk2 u2 x2 g2 r2 => ?_
  exact bin_sound (s := { s with heap := h2, toks := tk2 }) h g2 ((f.ext x1).ext x2) (r1.ext x2) r2 fun h3 tk3 u3 x3 g3 r3 => o h3 tk3 u3 ((x1.trans x2).trans x3) g3 r3
theorem ev_neg {a : Expr} {i : Int} (ha : Ev w K l sc ρ a (.d (.int i))) : Ev w K l sc ρ (.UnaryOp .USub a p) (.d (.int (-i))) := fun A s P Q E env ro g f ok er o => by
  refine wpAny_UnaryOp (ha A s P _ E env ro g f ok er fun h1 tk1 u1 x1 g1 r1 => ?_)
  obtain ⟨t, rfl⟩ := Rd.int_inv r1
  exact PySem.P.neg_int (o h1 _ _ x1 g1 (Rd.int _ _))
theorem room_units {A : Around} (ro : Room l A) : A.units + 64 < cLine := Nat.lt_of_le_of_lt (by omega) ro.units
theorem ev_cmp {a b : Expr} {op} {va vb : V} {c : Bool} (hm : behindInMarks op b = false) (ha : Ev w K l sc ρ a va) (hb : Ev w K l sc ρ b vb) (h : CmpR op va vb c) : Ev w K l sc ρ (.Compare a [op] [b] p) (boolV c) := fun A s P Q E env ro g f ok er o => by
  refine wpAny_Compare1 (ha A s P _ E env ro g f ok er fun h1 tk1 u1 x1 g1 r1 => ?_) hm
  refine hb A { s with heap := h1, toks := tk1 } P _ E env ro g1 (f.ext x1) ok (er.ext x1) fun h2 tk2 u2 x2 g2 r2 => ?_
  exact cmp_sound (s := { s with heap := h2, toks := tk2 }) h g2 (room_units ro) (r1.ext x2) r2 fun tk => o h2 tk _ (x1.trans x2) g2 (Rd.bool _)
theorem ev_and {a b : Expr} {va vb : V} {t : Bool} (ha : Ev w K l sc ρ a va) (ht : TruthR va t) (hb : t = true → Ev w K l sc ρ b vb) (hf : t = false → vb = va) : Ev w K l sc ρ (.BoolOp .And [a, b] p) vb := fun A s P Q E env ro g f ok er o => by
  refine wpAny_And2 (ha A s P _ E env ro g f ok er fun h1 tk1 u1 x1 g1 r1 => ?_)
  refine truth_sound (s := { s with heap := h1, toks := tk1 }) ht g1 r1 fun h2 tk2 x2 g2 => ?_
  cases t with
  | true => exact hb rfl A { s with heap := h2, toks := tk2 } P _ E env ro g2 ((f.ext x1).ext x2) ok ((er.ext x1).ext x2) fun h3 tk3 u3 x3 g3 r3 => o h3 tk3 u3 ((x1.trans x2).trans x3) g3 r3
  | false => exact o h2 tk2 _ (x1.trans x2) g2 (hf rfl ▸ r1.ext x2)
theorem ev_if {c a b : Expr} {v : V} {t : Bool} (hc : Tv w K l sc ρ c t) (h : Ev w K l sc ρ (cond t a b) v) : Ev w K l sc ρ (.IfExp c a b p) v := fun A s P Q E env ro g f ok er o => by
  refine wpAny_IfExp (hc A s P _ E env ro g f ok er fun h1 tk1 x1 g1 => ?_)
  cases t <;> exact h A { s with heap := h1, toks := tk1 } P _ E env ro g1 (f.ext x1) ok (er.ext x1) fun h3 tk3 u3 x3 g3 r3 => o h3 tk3 u3 (x1.trans x3) g3 r3
/-- no base of an attribute that the kit treats apart -/
def PlainBase (o : Expr) : Prop := ∀ name env whole, attributeBase o name env whole = whole
theorem ev_meth {a : Expr} {name : Str} {args : List Expr} {va v : V} {vs : List V} (hb : PlainBase a) (hp : (q.endLine == p.line) = true) (hn : Nat.ble args.length 20 = true) (ha : Ev w K l sc ρ a va) (hv : ArgsR w K l sc ρ args vs) (h : MethR va name vs v) :
    Ev w K l sc ρ (.Call (.Attribute a name q) args [] p) v := fun A s P Q E env ro g f ok er o => by
  refine attr_call_open hv (hb _ _) hp hn (ha A s P _ E env ro g f ok er fun h1 tk1 u1 x1 g1 r1 pl => ?_)
  obtain ⟨id, M1, M2⟩ := meth_sound (w := w) (K := K) h
  refine M1 A { s with heap := h1, toks := tk1 } P _ E pl u1 r1 ?_
  refine callWith_gen (noStar hv) (args_sound hv ro ok (s := { s with heap := h1, toks := tk1 }) g1 (f.ext x1) (er.ext x1) fun h2 tk2 vals x2 g2 a2 => ⟨fun Q' hQ' => wpAny_pure (hQ' _), ?_⟩)
  exact M2 A { s with heap := h2, toks := tk2 } P _ E u1 vals g2 ((f.ext x1).ext x2) (r1.ext x2) a2 fun h3 tk3 u3 x3 g3 r3 => o h3 tk3 u3 ((x1.trans x2).trans x3) g3 r3
theorem ev_methW {a : Expr} {name : Str} {args : List Expr} {va v : V} {vs : List V} (hb : PlainBase a) (hp : (q.endLine == p.line) = true) (hn : Nat.ble args.length 20 = true) (ha : Ev w K l sc ρ a va) (hv : ArgsR w K l sc ρ args vs) (h : MethOk w K l va name vs v) :
    Ev w K l sc ρ (.Call (.Attribute a name q) args [] p) v := fun A s P Q E env ro g f ok er o => by
  refine attr_call_open hv (hb _ _) hp hn (ha A s P _ E env ro g f ok er fun h1 tk1 u1 x1 g1 r1 pl => ?_)
  obtain ⟨fV, CO, GM⟩ := h
  refine GM A { s with heap := h1, toks := tk1 } P _ E pl u1 g1 r1 fun fv rf => ?_
  refine callWith_gen (noStar hv) (args_sound hv ro ok (s := { s with heap := h1, toks := tk1 }) g1 (f.ext x1) (er.ext x1) fun h2 tk2 vals x2 g2 a2 => ⟨fun Q' hQ' => ?_, ?_⟩)
  · exact CO.keeper A { s with heap := h2, toks := tk2 } P Q' E fv g2 (rf.ext x2) hQ'
  · exact CO.call A { s with heap := h2, toks := tk2 } P _ E fv (u1 :: vals) ro g2 ((f.ext x1).ext x2) (rf.ext x2) (.cons (r1.ext x2) a2) fun h3 tk3 u3 x3 g3 r3 => o h3 tk3 u3 ((x1.trans x2).trans x3) g3 r3
theorem ev_call {fx : Str} {args : List Expr} {vf v : V} {vs : List V} (hf : Ev w K l sc ρ (.Name fx q) vf) (hv : ArgsR w K l sc ρ args vs) (CO : CallOk w K l vf vs v) : Ev w K l sc ρ (.Call (.Name fx q) args [] p) v := fun A s P Q E env ro g f ok er o => by
  rw [arm_eval_Call_Name']
  refine wpAny_bind (hf A s P _ E env ro g f ok er fun h1 tk1 u1 x1 g1 r1 => ?_)
  rw [show (backToKw p (keywordEach [] env)) = [] from rfl]
  refine callWith_gen (noStar hv) (args_sound hv ro ok (s := { s with heap := h1, toks := tk1 }) g1 (f.ext x1) (er.ext x1) fun h2 tk2 vals x2 g2 a2 => ⟨fun Q' hQ' => ?_, ?_⟩)
  · exact CO.keeper A { s with heap := h2, toks := tk2 } P Q' E u1 g2 (r1.ext x2) hQ'
  · exact CO.call A { s with heap := h2, toks := tk2 } P _ E u1 ([] ++ vals) ro g2 ((f.ext x1).ext x2) (r1.ext x2) a2 fun h3 tk3 u3 x3 g3 r3 => o h3 tk3 u3 ((x1.trans x2).trans x3) g3 r3
theorem ev_attr {a : Expr} {name : Str} {va v : V} (hb : PlainBase a) (ha : Ev w K l sc ρ a va) (AO : AttrOk w K va name v) : Ev w K l sc ρ (.Attribute a name p) v := fun A s P Q E env ro g f ok er o => by
  rw [arm_eval_Attribute, hb]
  refine wpAny_bind (ha A s P _ E env ro g f ok er fun h1 tk1 u1 x1 g1 r1 => ?_)
  refine wpAny_bind (wpAny_standAt (wpAny_bind (wpAny_holding ?_)))
  refine AO A { s with heap := h1, toks := tk1 } P _ E u1 true g1 r1 fun h2 tk2 u2 x2 g2 r2 => ?_
  exact wpAny_bind (wpAny_letTemporaryGo (wpAny_pure (o h2 tk2 u2 (x1.trans x2) g2 r2)))
/-- a slice's part -/
inductive PartE (w : World) (K : Frag) (l : Nat) (sc : Sc) (ρ : Rho) : Option Expr → Option Int → Prop
  | none : PartE w K l sc ρ none none
  | some {e i} (h : Ev w K l sc ρ e (.d (.int i))) : PartE w K l sc ρ (some e) (some i)
theorem part_sound {A : Around} {s : Shared} {P : Addr → Prop} {E : Value → Shared → Prop} {env : Env} {x : Option Expr} {i : Option Int} {Q : Value → Shared → Prop}
    (e : PartE w K l sc ρ x i) (ro : Room l A) (g : Good K s.heap) (f : FreshOk P s.heap) (ok : EnvOk env sc) (er : EnvRel env ρ s.heap P)
    (hQ : ∀ h' tk val, Ext s.heap h' → Good K h' → PartIs i val → Q val { s with heap := h', toks := tk }) : wpAny (model prog w) A (evalPart x env) Q E s := by
  cases e with
  | none =>
    rw [evalPart_none]
    exact wpAny_pure (hQ s.heap s.toks _ (Ext.refl _) g .none)
  | some h =>
    rw [evalPart_some]
    refine h A s P _ E env ro g f ok er fun h' tk val x1 g1 r1 => ?_
    obtain ⟨t, rfl⟩ := Rd.int_inv r1
    exact hQ h' tk _ x1 g1 (.some _ _)
theorem ev_slice {a : Expr} {lo hi : Option Expr} {va v : V} {i j : Option Int} (ha : Ev w K l sc ρ a va) (hl : PartE w K l sc ρ lo i) (hh : PartE w K l sc ρ hi j) (h : SliceR va i j v) : Ev w K l sc ρ (.Subscript a (.Slice lo hi none q) p) v := fun A s P Q E env ro g f ok er o => by
  refine wpAny_SubscriptG (ha A s P _ E env ro g f ok er fun h1 tk1 u1 x1 g1 r1 => ?_)
  refine wpAny_Slice (part_sound (s := { s with heap := h1, toks := tk1 }) hl ro g1 (f.ext x1) ok (er.ext x1) fun h2 tk2 u2 x2 g2 p2 => ?_)
  refine part_sound (s := { s with heap := h2, toks := tk2 }) hh ro g2 ((f.ext x1).ext x2) ok ((er.ext x1).ext x2) fun h3 tk3 u3 x3 g3 p3 => ?_
  rw [evalPart_none]
  refine wpAny_pure ?_
  exact slice_sound (s := { s with heap := h3, toks := tk3 }) h g3 (((f.ext x1).ext x2).ext x3) ((r1.ext x2).ext x3) p2 p3 fun h4 tk4 u4 x4 g4 r4 => o h4 tk4 u4 (((x1.trans x2).trans x3).trans x4) g4 r4
theorem ev_sub {a i : Expr} {va v : V} {k : Int} (ha : Ev w K l sc ρ a va) (hi : Ev w K l sc ρ i (.d (.int k))) (h : SubR va k v) : Ev w K l sc ρ (.Subscript a i p) v := fun A s P Q E env ro g f ok er o => by
  refine wpAny_SubscriptG (ha A s P _ E env ro g f ok er fun h1 tk1 u1 x1 g1 r1 => ?_)
  refine hi A { s with heap := h1, toks := tk1 } P _ E env ro g1 (f.ext x1) ok (er.ext x1) fun h2 tk2 u2 x2 g2 r2 => ?_
  obtain ⟨t, rfl⟩ := Rd.int_inv r2
  exact sub_sound (s := { s with heap := h2, toks := tk2 }) h g2 (r1.ext x2) fun h3 tk3 u3 x3 g3 r3 => o h3 tk3 u3 ((x1.trans x2).trans x3) g3 r3
theorem ev_list {elts : List Expr} {vs : List V} {v : V} (hs : short elts.length = true) (hv : ArgsR w K l sc ρ elts vs) (h : PackR vs v) : Ev w K l sc ρ (.List elts p) v := fun A s P Q E env ro g f ok er o => by
  refine wpAny_List (args_sound hv ro ok g f er fun h1 tk1 vals x1 g1 a1 => ⟨?_, ?_⟩)
  · rw [a1.length, hv.length]; exact short_line hs
  · have hl : (h1.push { cls := .type "list", data := .seq vals.toArray }).IsList h1.objs.size vals.toArray := ⟨_, Heap.get?_push_size _ rfl, rfl, _, rfl⟩
    exact o _ tk1 _ (x1.push _) (g1.push _) (pack_sound h hl (a1.imp fun _ _ => RV.ext (ext_push _ _)) ((f.ext x1) _ (fresh_none _)))
theorem ev_tuple {elts : List Expr} {xs : List PyData} {n} (hs : short elts.length = true) (hv : ArgsR w K l sc ρ elts (xs.map .d)) : Ev w K l sc ρ (.Tuple elts n p) (.d (.tuple xs)) := fun A s P Q E env ro g f ok er o => by
  refine wpAny_Tuple (args_sound hv ro ok g f er fun h1 tk1 vals x1 g1 a1 => ⟨?_, ?_⟩)
  · rw [a1.length, hv.length]; exact short_line hs
  · exact o _ tk1 _ (x1.push _) (g1.push _) (new_tuple (s := { s with heap := h1, toks := tk1 }) (all2_d a1))
/-- the heads of comprehensions -/
structure CompH (sc : Sc) (scope : Scope) : Prop where
  c1 : scope.kind = .function
  c2 : freeOk scope.names sc = true
  c3 : nodupN scope.names = true
theorem ev_comp {elt target iter : Expr} {ifs : List Expr} {scope : Scope} {v0 v : V} {us zs : List V} (c : CompH sc scope) (c4 : PlainIter iter) (hi : Ev w K l sc ρ iter v0) (ho : notOwn v0 = true) (hu : ItemsR v0 us) (hr : CompR w K l elt target ifs scope.names (innerRho scope.names ρ) us zs) (hl : short zs.length = true) (h : PackR zs v) :
    Ev w K l sc ρ (.ListComp elt [⟨target, iter, ifs, 0⟩] scope p) v := fun A s P Q E env ro g f ok er o => by
  rw [eval_ListComp]
  refine comp_one c.c1 c.c2 c.c3 c4 hi ho hu hr hl h ro g f ok er fun D C h' tk ce => ?_
  refine let ⟨m, hm⟩ := ce.ns; ⟨m, hm, fun h'' sb => ?_⟩
  obtain ⟨q1, q2, q3⟩ := ce.gone g sb
  exact o h'' tk _ q1 q2 q3
theorem ev_comp2 {elt t0 iter0 t1 iter1 : Expr} {ifs0 ifs1 : List Expr} {scope : Scope} {v0 v : V} {us zs : List V} (c : CompH sc scope) (c4 : PlainIter iter0) (c5 : PlainIter iter1) (hi : Ev w K l sc ρ iter0 v0) (ho : notOwn v0 = true) (hu : ItemsR v0 us)
    (hr : CompR2 w K l elt t0 ifs0 t1 iter1 ifs1 scope.names (innerRho scope.names ρ) us zs) (hl : short zs.length = true) (h : PackR zs v) :
    Ev w K l sc ρ (.ListComp elt [⟨t0, iter0, ifs0, 0⟩, ⟨t1, iter1, ifs1, 0⟩] scope p) v := fun A s P Q E env ro g f ok er o => by
  rw [eval_ListComp]
  refine comp_two c.c1 c.c2 c.c3 c4 c5 hi ho hu hr hl h ro g f ok er fun D C h' tk ce => ?_
  refine let ⟨m, hm⟩ := ce.ns; ⟨m, hm, fun h'' sb => ?_⟩
  obtain ⟨q1, q2, q3⟩ := ce.gone g sb
  exact o h'' tk _ q1 q2 q3
/-! ## tests -/
theorem tv_not {a : Expr} {b : Bool} (h : Tv w K l sc ρ a b) : Tv w K l sc ρ (.UnaryOp .Not a p) (!b) := fun A s P Q E env ro g f ok er o =>
  wpAny_isTrue_Not (h A s P _ E env ro g f ok er fun h1 tk1 x1 g1 => o h1 tk1 x1 g1)
theorem tv_and {a b : Expr} {x y : Bool} (ha : Tv w K l sc ρ a x) (hb : x = true → Tv w K l sc ρ b y) : Tv w K l sc ρ (.BoolOp .And [a, b] p) (x && y) := fun A s P Q E env ro g f ok er o => by
  refine wpAny_isTrue_BoolOp (wpAny_allTrue_And_cons (ha A s P _ E env ro g f ok er fun h1 tk1 x1 g1 => ?_))
  cases x with
  | false => exact o h1 tk1 x1 g1
  | true =>
    refine wpAny_allTrue_And_cons (hb rfl A { s with heap := h1, toks := tk1 } P _ E env ro g1 (f.ext x1) ok (er.ext x1) fun h2 tk2 x2 g2 => ?_)
    cases y with
    | true => exact wpAny_allTrue_And_nil (o h2 tk2 (x1.trans x2) g2)
    | false => exact o h2 tk2 (x1.trans x2) g2
theorem tv_cmp {a b : Expr} {op} {va vb : V} {c : Bool} (hm : behindInMarks op b = false) (ha : Ev w K l sc ρ a va) (hb : Ev w K l sc ρ b vb) (h : CmpR op va vb c) : Tv w K l sc ρ (.Compare a [op] [b] p) c := fun A s P Q E env ro g f ok er o => by
  refine wpAny_isTrue_Compare1 (ha A s P _ E env ro g f ok er fun h1 tk1 u1 x1 g1 r1 => ?_) hm
  refine hb A { s with heap := h1, toks := tk1 } P _ E env ro g1 (f.ext x1) ok (er.ext x1) fun h2 tk2 u2 x2 g2 r2 => ?_
  exact cmp_sound (s := { s with heap := h2, toks := tk2 }) h g2 (room_units ro) (r1.ext x2) r2 fun tk => wpAny_truthy_bool (o h2 tk (x1.trans x2) g2)
/-- no form that the kit tests apart -/
def PlainTest (e : Expr) : Prop := ∀ env whole, isTrue e env whole = (do let v ← whole; standAt e.pos; holding [v] (truthy v))
theorem tv_val {e : Expr} {v : V} {b : Bool} (he : PlainTest e) (h : Ev w K l sc ρ e v) (ht : TruthR v b) : Tv w K l sc ρ e b := fun A s P Q E env ro g f ok er o =>
  wpAny_isTrue_value (h A s P _ E env ro g f ok er fun h1 tk1 u1 x1 g1 r1 => truth_sound (s := { s with heap := h1, toks := tk1 }) ht g1 r1 fun h2 tk2 x2 g2 => o h2 tk2 (x1.trans x2) g2) (he _ _)
end
end Mine
namespace Mine
open PySem PySem.Spec PySem.Calls PySem.W PyProof.Rows
open PySem.Builtin PySem.Builtin.Str

/-! ## what a run of statements keeps -/
structure Cx where
  K : Frag
  env : Env
  sc : Sc
  Pr : Addr → Obj → Prop
  Z : Addr → Prop
  PC : Addr → Prop
  pl : Str → Bool
noncomputable def ownN (sc : Sc) (x : Str) : Prop := sc.lookup x = some .local ∨ sc.lookup x = some .cell
abbrev Cx.M (C : Cx) : Addr → Prop := Mu C.env (ownN C.sc)
noncomputable def Holds (Pr : Addr → Obj → Prop) (h : Heap) : Prop := ∀ b o, Pr b o → h.get? b = some o ∨ (b = TAB ∧ ∃ vs more, o = tabObj vs ∧ h.get? b = some (tabObj (vs ++ more)))
theorem Holds.ext {Pr : Addr → Obj → Prop} {b c : Heap} (x : Holds Pr b) (y : Ext b c) : Holds Pr c := by
  intro p o e
  rcases x p o e with h | ⟨hp, vs, more, ho, h⟩
  · exact y p o h
  · rcases y p _ h with h' | ⟨_, vs', more', ho', h'⟩
    · exact .inr ⟨hp, vs, more, ho, h'⟩
    · have : vs' = vs ++ more := by
        have := ho'
        simp only [tabObj, Obj.mk.injEq, Data.fields.injEq] at this
        exact this.2.2.1.symm
      subst this
      exact .inr ⟨hp, vs, more ++ more', ho, by rw [h', Array.append_assoc]⟩
theorem Holds.alive {Pr : Addr → Obj → Prop} {h : Heap} (x : Holds Pr h) {a : Addr} {o : Obj} (p : Pr a o) : h.get? a ≠ none := by
  intro e
  rcases x a o p with q | ⟨_, _, _, _, q⟩ <;> rw [e] at q <;> cases q
theorem Holds.chg {Pr : Addr → Obj → Prop} {X : Addr → Prop} {h h' : Heap} (x : Holds Pr h) (k : Chg X h h') (hX : ∀ b, X b → ∀ o, ¬ Pr b o) : Holds Pr h' := by
  intro b o p
  have hn : ¬ X b := fun m => hX b m o p
  rcases x b o p with z | ⟨z1, vs, more, z2, z3⟩
  · exact .inl (k _ _ hn z)
  · exact .inr ⟨z1, vs, more, z2, k _ _ hn z3⟩

structure SR (C : Cx) (ρ : Rho) (h : Heap) (P : Addr → Prop) (f : Str → Option Value) : Prop where
  frame : FrameAt C.env (ownN C.sc) h f
  vars : ∀ x v, ρ.lookup x = some v → ownN C.sc x ∧ ∃ val, f x = some val ∧ RV h P v val
  own : ∀ x xs a, ρ.lookup x = some (.own xs) → f x = some (.ref a) → ¬ P a ∧ C.K.lookup a = none ∧ (∀ o, ¬ C.Pr a o) ∧ C.PC a
  dist : ∀ x y xs ys a, ρ.lookup x = some (.own xs) → ρ.lookup y = some (.own ys) → f x = some (.ref a) → f y = some (.ref a) → x = y
  plain : ∀ x xs a, C.pl x = true → ρ.lookup x = some (.own xs) → f x = some (.ref a) → ∃ vs, h.PlainList a vs
  mu : ∀ a, C.M a → ¬ P a ∧ C.K.lookup a = none ∧ ∀ o, ¬ C.Pr a o
  fresh : FreshOk P h
  good : Good C.K h
  sub : ∀ a, P a → C.PC a
  z : ∀ a, C.Z a → ¬ P a ∧ ∃ o, C.Pr a o
  holds : Holds C.Pr h

noncomputable def setR (x : Str) (v : V) : Rho → Rho
  | [] => [(x, v)]
  | (y, u) :: r => if x == y then (x, v) :: r else (y, u) :: setR x v r
noncomputable def setAll : Rho → Rho → Rho
  | [], ρ => ρ
  | (x, v) :: b, ρ => setR x v (setAll b ρ)
theorem lookup_setR {x y : Str} {v : V} {ρ : Rho} : (setR x v ρ).lookup y = if y = x then some v else ρ.lookup y := by
  induction ρ with
  | nil =>
    unfold setR
    rw [List.lookup_cons]
    by_cases h : y = x
    · subst h; simp
    · have : (y == x) = false := by simpa using h
      rw [this, if_neg h]
  | cons p r ih =>
    obtain ⟨z, u⟩ := p
    unfold setR
    by_cases hz : x = z
    · subst hz
      simp only [beq_self_eq_true, if_true, List.lookup_cons]
      by_cases h : y = x
      · subst h; simp
      · have : (y == x) = false := by simpa using h
        rw [this, if_neg h]
    · have : (x == z) = false := by simpa using hz
      simp only [this, Bool.false_eq_true, if_false, List.lookup_cons]
      by_cases h : y = z
      · subst h
        have : y ≠ x := fun e => hz e.symm
        simp [this]
      · have : (y == z) = false := by simpa using h
        rw [this]; exact ih
theorem lookup_setAll {y : Str} : ∀ {b ρ : Rho}, (setAll b ρ).lookup y = (b.lookup y).or (ρ.lookup y)
  | [], ρ => rfl
  | (x, v) :: b, ρ => by
    unfold setAll
    rw [lookup_setR, lookup_setAll, List.lookup_cons]
    by_cases h : y = x
    · subst h; simp
    · have : (y == x) = false := by simpa using h
      rw [if_neg h, this]

section
variable {C : Cx} {ρ : Rho} {h h' : Heap} {P : Addr → Prop} {f f' : Str → Option Value}
theorem SR.envRel (S : SR C ρ h P f) : EnvRel C.env ρ h P := fun x v e => by
  obtain ⟨n, val, hf, r⟩ := S.vars x v e
  exact ⟨val, S.frame.nameIs n hf, r⟩
theorem SR.ext (S : SR C ρ h P f) (x : Ext h h') (g : Good C.K h') : SR C ρ h' P f :=
  ⟨S.frame.ext x, fun y v e => let ⟨n, val, hf, r⟩ := S.vars y v e; ⟨n, val, hf, r.ext x⟩, S.own, S.dist, fun y xs a hp e hf => let ⟨vs, n, q⟩ := S.plain y xs a hp e hf; ⟨vs, n, x.cls q (fun e => nomatch e)⟩, S.mu, S.fresh.ext x, g, S.sub, S.z, S.holds.ext x⟩
theorem SR.ownAt (S : SR C ρ h P f) {x : Str} {xs : List PyData} (e : ρ.lookup x = some (.own xs)) : ∃ a vs, f x = some (.ref a) ∧ h.IsList a vs ∧ RdAll h P xs vs.toList := by
  obtain ⟨n, val, hf, a, vs, rfl, hl, hr⟩ := S.vars x _ e
  exact ⟨a, vs, hf, hl, hr⟩
theorem SR.loose (S : SR C ρ h P f) : Loose h P C.M := S.frame.loose fun a m => (S.mu a m).1
theorem fresh_chg {X : Addr → Prop} (F : FreshOk P h) (k : Chg X h h') (hX : ∀ a, X a → h'.get? a ≠ none) : FreshOk P h' := fun a e => by
  cases q : h.get? a with
  | none => exact F a q
  | some o' =>
    exfalso
    by_cases m : X a
    · exact hX a m e
    · rw [k a o' m q] at e; cases e
/-- the frame is written -/
theorem SR.assign (S : SR C ρ h P f) (F' : FrameAt C.env (ownN C.sc) h' f') (k : Chg C.M h h') {b : Rho} (hN : ∀ p ∈ b, ownN C.sc p.1) (hO : ∀ x u, b.lookup x = some u → notOwn u = true)
    (h1 : ∀ x, b.lookup x = none → f' x = f x) (h2 : ∀ x u, b.lookup x = some u → ∃ y, f' x = some y ∧ RV h' P u y) : SR C (setAll b ρ) h' P f' := by
  have lo := S.loose
  have keepOwn : ∀ x xs, (setAll b ρ).lookup x = some (.own xs) → b.lookup x = none ∧ ρ.lookup x = some (.own xs) := by
    intro x xs e
    rw [lookup_setAll] at e
    cases q : b.lookup x with
    | none => rw [q] at e; exact ⟨rfl, by simpa using e⟩
    | some u =>
      rw [q] at e
      have e : u = .own xs := by simpa using e
      have := hO x u q
      rw [e] at this; cases this
  refine ⟨F', fun x v e => ?_, fun x xs a e hf => ?_, fun x y xs ys a e1 e2 g1 g2 => ?_, fun x xs a hp e hf => ?_, S.mu, ?_, S.good.chg k (fun b o m e => (lo b o m e).2) (fun a m => (S.mu a m).2.1), S.sub, S.z, S.holds.chg k fun a m => (S.mu a m).2.2⟩
  · rw [lookup_setAll] at e
    cases q : b.lookup x with
    | some u =>
      rw [q] at e
      obtain rfl : u = v := by simpa using e
      obtain ⟨y, hy, ry⟩ := h2 x u q
      exact ⟨hN _ (lookup_mem q), y, hy, ry⟩
    | none =>
      rw [q] at e
      obtain ⟨n, val, hf, r⟩ := S.vars x v (by simpa using e)
      exact ⟨n, val, (h1 x q).trans hf, RV.chg k lo S.frame.noSeq r⟩
  · obtain ⟨q, e⟩ := keepOwn x xs e
    exact S.own x xs a e ((h1 x q).symm.trans hf)
  · obtain ⟨q1, e1⟩ := keepOwn x xs e1
    obtain ⟨q2, e2⟩ := keepOwn y ys e2
    exact S.dist x y xs ys a e1 e2 ((h1 x q1).symm.trans g1) ((h1 y q2).symm.trans g2)
  · obtain ⟨q, e⟩ := keepOwn x xs e
    obtain ⟨vs, n, g⟩ := S.plain x xs a hp e ((h1 x q).symm.trans hf)
    exact ⟨vs, n, k _ _ (fun m => by obtain ⟨o, ho, _, hn⟩ := S.frame.mu m; rw [g] at ho; cases ho; exact hn _ _ rfl) g⟩
  · exact fresh_chg S.fresh k fun a m => by obtain ⟨o, ho, _⟩ := F'.mu m; rw [ho]; exact fun e => nomatch e
theorem SR.notMu (S : SR C ρ h P f) {a : Addr} {vs : Array Value} (l : h.IsList a vs) : ¬ C.M a := fun m => by
  obtain ⟨o, ho, _, hn⟩ := S.frame.mu m
  obtain ⟨o', ho', _, n, hd⟩ := l
  rw [ho] at ho'; cases ho'; exact hn _ _ hd
/-- an owned list is changed -/
theorem SR.mutate (S : SR C ρ h P f) {x : Str} {xs xs' : List PyData} {a : Addr} {vs vs' : Array Value} (e : ρ.lookup x = some (.own xs)) (hf : f x = some (.ref a)) (l : h.IsList a vs) (l' : h'.IsList a vs') (k : Chg (· = a) h h')
    (r : RdAll h P xs' vs'.toList) (hpl : C.pl x = true → ∃ vs, h'.PlainList a vs) : SR C (setR x (.own xs') ρ) h' P f := by
  obtain ⟨p1, p2, p3, p4⟩ := S.own x xs a e hf
  obtain ⟨oa, hoa, hca, na, hda⟩ := id l
  have lo : Loose h P (· = a) := fun b o q w => by subst q; rw [hoa] at w; cases w; exact ⟨p1, .list hca hda⟩
  have nm := S.notMu l
  have look : ∀ y v, (setR x (.own xs') ρ).lookup y = some v → (y = x ∧ v = .own xs') ∨ (y ≠ x ∧ ρ.lookup y = some v) := by
    intro y v q
    rw [lookup_setR] at q
    by_cases hy : y = x
    · rw [if_pos hy] at q; exact .inl ⟨hy, (by simpa using q.symm)⟩
    · rw [if_neg hy] at q; exact .inr ⟨hy, q⟩
  refine ⟨S.frame.chg k fun b m q => nm (q ▸ m), fun y v q => ?_, fun y ys b q g => ?_, fun y z ys zs b q1 q2 g1 g2 => ?_, fun y ys b hp q g => ?_, S.mu, ?_, S.good.chg k (fun b o m w => (lo b o m w).2) (fun b m => by rw [m]; exact p2), S.sub, S.z, S.holds.chg k fun b m => by rw [m]; exact p3⟩
  · rcases look y v q with ⟨rfl, rfl⟩ | ⟨hy, q⟩
    · exact ⟨(S.vars _ _ e).1, _, hf, a, vs', rfl, l', r.chg k lo.rd⟩
    · obtain ⟨n, val, g, rr⟩ := S.vars y v q
      refine ⟨n, val, g, ?_⟩
      by_cases ho : notOwn v = true
      · exact RV.chg' k lo ho rr
      · cases v <;> try exact absurd rfl ho
        obtain ⟨b, us, rfl, ⟨o, g1, g2⟩, g3⟩ := rr
        refine ⟨b, us, rfl, ⟨o, k _ _ (fun w => hy ?_) g1, g2⟩, g3.chg k lo.rd⟩
        rw [w] at g
        exact S.dist y x _ xs a q e g hf
  · rcases look y _ q with ⟨rfl, _⟩ | ⟨hy, q⟩
    · rw [hf] at g; cases g; exact ⟨p1, p2, p3, p4⟩
    · exact S.own y ys b q g
  · rcases look y _ q1 with ⟨hy, _⟩ | ⟨hy, w1⟩ <;> rcases look z _ q2 with ⟨hz, _⟩ | ⟨hz, w2⟩
    · rw [hy, hz]
    · subst hy; exact S.dist _ _ _ _ b e w2 g1 g2
    · subst hz; exact S.dist _ _ _ _ b w1 e g1 g2
    · exact S.dist _ _ _ _ b w1 w2 g1 g2
  · rcases look y _ q with ⟨hy, _⟩ | ⟨hy, q⟩
    · subst hy; rw [hf] at g; cases g; exact hpl hp
    · obtain ⟨us, n, w⟩ := S.plain y ys b hp q g
      exact ⟨us, n, k _ _ (fun m => hy (S.dist y x ys xs a q e (m ▸ g) hf)) w⟩
  · exact fresh_chg S.fresh k fun b m => by rw [m]; obtain ⟨o, ho, _⟩ := l'; rw [ho]; exact fun e => nomatch e
/-- an owned list is let alone from now on -/
theorem SR.freeze (S : SR C ρ h P f) {x : Str} {xs : List PyData} (e : ρ.lookup x = some (.own xs)) : ∃ P' : Addr → Prop, (∀ a, P a → P' a) ∧ SR C (setR x (.d (.list xs)) ρ) h P' f := by
  obtain ⟨a, vs, hf, l, r⟩ := S.ownAt e
  obtain ⟨p1, p2, p3, p4⟩ := S.own x xs a e hf
  have nm := S.notMu l
  have sub : ∀ b, P b → P b ∨ b = a := fun b p => .inl p
  have look : ∀ y v, (setR x (.d (.list xs)) ρ).lookup y = some v → (y = x ∧ v = .d (.list xs)) ∨ (y ≠ x ∧ ρ.lookup y = some v) := by
    intro y v q
    rw [lookup_setR] at q
    by_cases hy : y = x
    · rw [if_pos hy] at q; exact .inl ⟨hy, (by simpa using q.symm)⟩
    · rw [if_neg hy] at q; exact .inr ⟨hy, q⟩
  refine ⟨fun b => P b ∨ b = a, sub, S.frame, fun y v q => ?_, fun y ys b q g => ?_, fun y z ys zs b q1 q2 g1 g2 => ?_, fun y ys b hp q g => ?_, fun b m => ?_, fun b q => .inl (S.fresh b q), S.good, fun b q => ?_, fun b q => ?_, S.holds⟩
  · rcases look y v q with ⟨rfl, rfl⟩ | ⟨hy, q⟩
    · exact ⟨(S.vars _ _ e).1, _, hf, Rd.list l (.inr rfl) (r.mono sub)⟩
    · obtain ⟨n, val, g, rr⟩ := S.vars y v q
      exact ⟨n, val, g, rr.mono sub⟩
  · rcases look y _ q with ⟨_, w⟩ | ⟨hy, q⟩
    · cases w
    · obtain ⟨u1, u2⟩ := S.own y ys b q g
      refine ⟨fun w => ?_, u2⟩
      rcases w with w | w
      · exact u1 w
      · rw [w] at g; exact hy (S.dist y x ys xs a q e g hf)
  · rcases look y _ q1 with ⟨_, w⟩ | ⟨hy, q1⟩
    · cases w
    rcases look z _ q2 with ⟨_, w⟩ | ⟨hz, q2⟩
    · cases w
    exact S.dist _ _ _ _ b q1 q2 g1 g2
  · rcases look y _ q with ⟨_, w⟩ | ⟨hy, q⟩
    · cases w
    · exact S.plain y ys b hp q g
  · obtain ⟨u1, u2⟩ := S.mu b m
    exact ⟨fun w => w.elim u1 fun w => nm (w ▸ m), u2⟩
  · rcases q with q | q
    · exact S.sub b q
    · rw [q]; exact p4
  · obtain ⟨u1, o, u2⟩ := S.z b q
    exact ⟨fun w => w.elim u1 fun w => p3 o (w ▸ u2), o, u2⟩
end
end Mine
namespace Mine
open PySem PySem.Spec PySem.Calls PySem.W PyProof.Rows
open PySem.Builtin PySem.Builtin.Str

/-! ## what a run keeps of data -/
noncomputable def ExtBut (X : Addr → Prop) (h h' : Heap) : Prop := ∀ b o, ¬ X b → h.get? b = some o → h'.get? b = some o ∨ (b = TAB ∧ ∃ vs more, o = tabObj vs ∧ h'.get? b = some (tabObj (vs ++ more)))
structure Kp (P : Addr → Prop) (h : Heap) (P' : Addr → Prop) (h' : Heap) : Prop where
  ex : ∃ X, ExtBut X h h' ∧ Loose h P X
  up : ∀ a, P a → h.get? a ≠ none → P' a ∧ h'.get? a ≠ none
section
variable {P P' P'' X : Addr → Prop} {h h' h'' : Heap}
theorem ExtBut.cls (x : ExtBut X h h') {b : Addr} {o : Obj} (n : ¬ X b) (e : h.get? b = some o) (hc : o.cls ≠ .none) : h'.get? b = some o := by
  rcases x b o n e with h | ⟨_, vs, _, rfl, _⟩
  · exact h
  · exact absurd rfl hc
theorem Kp.ofExt (x : Ext h h') : Kp P h P h' :=
  ⟨⟨fun _ => False, fun b o _ e => x b o e, fun _ _ m => m.elim⟩, fun a p q => ⟨p, fun e => q (x.none e)⟩⟩
theorem Kp.refl : Kp P h P h := .ofExt (.refl _)
theorem Kp.ofChg (k : Chg X h h') (lo : Loose h P X) : Kp P h P h' := by
  refine ⟨⟨X, fun b o n e => .inl (k b o n e), lo⟩, fun a p q => ⟨p, ?_⟩⟩
  cases e : h.get? a with
  | none => exact absurd e q
  | some o =>
    rw [k a o (fun m => (lo a o m e).1 p) e]; exact fun e => nomatch e
theorem Kp.into (u : ∀ a, P a → h.get? a ≠ none → P' a) : Kp P h P' h :=
  ⟨⟨fun _ => False, fun b o _ e => .inl e, fun _ _ m => m.elim⟩, fun a p q => ⟨u a p q, q⟩⟩
theorem Kp.trans (a : Kp P h P' h') (b : Kp P' h' P'' h'') : Kp P h P'' h'' := by
  obtain ⟨X, x1, l1⟩ := a.ex
  obtain ⟨Y, x2, l2⟩ := b.ex
  have two : ∀ c o, ¬ X c → h.get? c = some o → (h'.get? c = some o ∨ (c = TAB ∧ ∃ vs more, o = tabObj vs ∧ h'.get? c = some (tabObj (vs ++ more)))) := x1
  refine ⟨⟨fun c => X c ∨ Y c, fun c o n e => ?_, fun c o m e => ?_⟩, fun c p q => ?_⟩
  · have n1 : ¬ X c := fun m => n (.inl m)
    have n2 : ¬ Y c := fun m => n (.inr m)
    rcases two c o n1 e with q | ⟨q1, vs, more, q2, q3⟩
    · exact x2 c o n2 q
    · rcases x2 c _ n2 q3 with z | ⟨z1, vs', more', z2, z3⟩
      · exact .inr ⟨q1, vs, more, q2, z⟩
      · have : vs' = vs ++ more := by
          have := z2
          simp only [tabObj, Obj.mk.injEq, Data.fields.injEq] at this
          exact this.2.2.1.symm
        subst this
        exact .inr ⟨q1, vs, more ++ more', q2, by rw [z3, Array.append_assoc]⟩
  · by_cases hx : X c
    · exact l1 c o hx e
    · have hy : Y c := m.resolve_left hx
      rcases two c o hx e with q | ⟨q1, vs, more, q2, q3⟩
      · have r := l2 c o hy q
        exact ⟨fun p => r.1 ((a.up c p (by rw [e]; exact fun e => nomatch e)).1), r.2⟩
      · exact absurd rfl ((l2 c _ hy q3).2.tab _)
  · have r := a.up c p q
    exact b.up c r.1 r.2
theorem Rd.kp (k : Kp P h P' h') {d v} (r : Rd h P d v) : Rd h' P' d v := by
  obtain ⟨as, r, p⟩ := r
  obtain ⟨X, x, lo⟩ := k.ex
  refine ⟨as, ((move_both h h').1 r).2 fun b o e hb => ?_, fun a m => (k.up a (p a m) (((move_both h h').1 r).1 a m)).1⟩
  refine x.cls (fun m => ?_) e (hb.elim isTup.cls fun q => q.1.cls)
  have q := lo b o m e
  exact hb.elim q.2.tup fun z => q.1 (p _ z.2)
theorem WsAt.kp (k : Kp P h P' h') {raw v} (r : WsAt h P raw v) : WsAt h' P' raw v := by
  obtain ⟨a, ox, dx, od, e, h1, h2, h3, h4, h5, h6, h7, h8, h9⟩ := r.ex
  obtain ⟨X, x, lo⟩ := k.ex
  refine ⟨a, ox, dx, od, e, x.cls (fun m => (lo _ _ m h1).2.plain h3) h1 (by rw [h2]; exact fun e => nomatch e), h2, h3, h4, (k.up dx h5 (by rw [h6]; exact fun e => nomatch e)).1,
    x.cls (fun m => (lo _ _ m h6).1 h5) h6 (by rw [h7]; exact fun e => nomatch e), h7, fun n d e => let ⟨v, a, b⟩ := h8 n d e; ⟨v, a, b.kp k⟩, h9⟩
theorem IsList.kp (k : Kp P h P' h') {a : Addr} {vs : Array Value} (l : h.IsList a vs) (p : P a) : h'.IsList a vs := by
  obtain ⟨X, x, lo⟩ := k.ex
  obtain ⟨o, ho, hc, r⟩ := l
  exact ⟨o, x.cls (fun m => (lo _ _ m ho).1 p) ho (by rw [hc]; exact fun e => nomatch e), hc, r⟩
theorem IsTuple.kp (k : Kp P h P' h') {a : Addr} {vs : Array Value} (l : h.IsTuple a vs) : h'.IsTuple a vs := by
  obtain ⟨X, x, lo⟩ := k.ex
  obtain ⟨o, ho, hc, n, hd⟩ := l
  exact ⟨o, x.cls (fun m => (lo _ _ m ho).2.tup ⟨hc, _, _, hd⟩) ho (by rw [hc]; exact fun e => nomatch e), hc, n, hd⟩
theorem Kp.alive (k : Kp P h P' h') {a : Addr} {vs : Array Value} (l : h.IsList a vs) (p : P a) : P' a := (k.up a p (by obtain ⟨o, ho, _⟩ := l; rw [ho]; exact fun e => nomatch e)).1
theorem RV.kp (k : Kp P h P' h') {v : V} {val : Value} (e : notOwn v = true) (r : RV h P v val) : RV h' P' v val := by
  cases v with
  | d => exact Rd.kp k r
  | own => cases e
  | rng =>
    obtain ⟨r, t, u, w, e, q⟩ := r
    obtain ⟨X, x, lo⟩ := k.ex
    exact ⟨r, t, u, w, e, x.cls (fun m => (lo _ _ m q).2.rng rfl _ rfl) q (fun e => nomatch e)⟩
  | fn => exact r
  | ws => exact WsAt.kp k r
  | wsl => obtain ⟨a, vs, e, p, l, r⟩ := r; exact ⟨a, vs, e, k.alive l p, IsList.kp k l p, r.imp fun _ _ => WsAt.kp k⟩
theorem All2.rvKp (k : Kp P h P' h') {items : List V} {vals : List Value} (n : ∀ v ∈ items, notOwn v = true) (r : All2 (RV h P) items vals) : All2 (RV h' P') items vals := by
  induction r with
  | nil => exact .nil
  | cons r _ ih => exact .cons (RV.kp k (n _ (List.mem_cons_self ..)) r) (ih fun v m => n v (List.mem_cons_of_mem _ m))
theorem ItSt.kp {items : List V} {I : Addr} {D : ItD} {i : Nat} (k : Kp P h P' h') (ho : ownIt D = false) (hI : ∀ o, h.get? I = some o → h'.get? I = some o) (t : ItSt items I P D i h) : ItSt items I P' D i h' := by
  cases D with
  | lst ax vals own =>
    obtain ⟨⟨o, ho', hc, hd⟩, l, h2, h3, h4⟩ := t
    cases own with
    | true => cases ho
    | false => exact ⟨⟨o, hI _ ho', hc, hd⟩, IsList.kp k l (h3 rfl), h2.rvKp k h4, fun _ => k.alive l (h3 rfl), h4⟩
  | tup ax vals =>
    obtain ⟨⟨o, ho', hc, hd⟩, l, h2, h4⟩ := t
    exact ⟨⟨o, hI _ ho', hc, hd⟩, IsTuple.kp k l, h2.rvKp k h4, h4⟩
  | str ty x' t' =>
    obtain ⟨hty, ⟨o, ho', hc, hd⟩, h1⟩ := t
    exact ⟨hty, ⟨o, hI _ ho', hc, hd⟩, h1⟩
  | rng a b =>
    obtain ⟨ho', h1⟩ := t
    exact ⟨hI _ ho', h1⟩
end

/-! ## more steps of a state -/
noncomputable def flatD : PyData → Bool
  | .int _ => true
  | .str _ => true
  | .bool _ => true
  | .none => true
  | _ => false
theorem Rd.flat {h h' : Heap} {P P' : Addr → Prop} {d v} (hf : flatD d = true) (r : Rd h P d v) : Rd h' P' d v := by
  cases d <;> try cases hf
  · rw [r.none_inv]; exact Rd.none
  · rw [r.bool_inv]; exact Rd.bool _
  · obtain ⟨t, rfl⟩ := r.int_inv; exact Rd.int _ _
  · obtain ⟨t, rfl⟩ := r.str_inv; exact Rd.str _ _
theorem RdAll.flat {h h' : Heap} {P P' : Addr → Prop} {ds : List PyData} {vs : List Value} (hf : ds.all flatD = true) (r : RdAll h P ds vs) : RdAll h' P' ds vs := by
  induction ds generalizing vs with
  | nil => rw [r.nil_inv]; exact RdAll.nil
  | cons d ds ih =>
    rw [List.all_cons, Bool.and_eq_true] at hf
    obtain ⟨v, vs', rfl, r1, r2⟩ := r.cons_inv
    exact RdAll.cons (r1.flat hf.1) (ih hf.2 r2)
noncomputable def flatV : V → Bool
  | .d x => flatD x
  | .own xs => xs.all flatD
  | .rng _ _ => true
  | .fn _ => true
  | _ => false
theorem RV.flat {h : Heap} {P P' : Addr → Prop} {v : V} {val : Value} (hf : flatV v = true) (r : RV h P v val) : RV h P' v val := by
  cases v with
  | d => exact Rd.flat hf r
  | own => obtain ⟨a, vs, e, l, r⟩ := r; exact ⟨a, vs, e, l, RdAll.flat hf r⟩
  | rng => exact r
  | fn => exact r
  | ws => cases hf
  | wsl => cases hf

noncomputable def frzV : V → V
  | .own xs => .d (.list xs)
  | v => v
noncomputable def frz (ρ : Rho) : Rho := ρ.map fun p => (p.1, frzV p.2)
theorem lookup_frz {ρ : Rho} {x : Str} : (frz ρ).lookup x = (ρ.lookup x).map frzV := by
  induction ρ with
  | nil => rfl
  | cons p r ih =>
    obtain ⟨y, v⟩ := p
    show List.lookup x ((y, frzV v) :: frz r) = _
    rw [List.lookup_cons, List.lookup_cons]
    split
    · rfl
    · exact ih

section
variable {C : Cx} {ρ : Rho} {h h' : Heap} {P : Addr → Prop} {f f' : Str → Option Value}
theorem SR.freezeAll (S : SR C ρ h P f) : ∃ P' : Addr → Prop, Kp P h P' h ∧ SR C (frz ρ) h P' f := by
  have sub : ∀ b, P b → P b ∨ ∃ x xs, ρ.lookup x = some (.own xs) ∧ f x = some (.ref b) := fun b p => .inl p
  have look : ∀ y v, (frz ρ).lookup y = some v → notOwn v = true ∧ ∃ u, ρ.lookup y = some u ∧ v = frzV u := by
    intro y v q
    rw [lookup_frz] at q
    obtain ⟨u, h1, h2⟩ := Option.map_eq_some_iff.mp q
    refine ⟨?_, u, h1, h2.symm⟩
    rw [← h2]; cases u <;> rfl
  refine ⟨fun b => P b ∨ ∃ x xs, ρ.lookup x = some (.own xs) ∧ f x = some (.ref b), .into fun a p _ => .inl p, S.frame, fun y v q => ?_, fun y ys b q g => ?_, fun y z ys zs b q1 q2 g1 g2 => ?_, fun y ys b hp q g => ?_, fun b m => ?_, fun b q => .inl (S.fresh b q), S.good, fun b q => ?_, fun b q => ?_, S.holds⟩
  · obtain ⟨ho, u, hu, rfl⟩ := look y v q
    obtain ⟨n, val, g, rr⟩ := S.vars y u hu
    refine ⟨n, val, g, ?_⟩
    cases u <;> try exact RV.mono sub rr
    rename_i xs
    obtain ⟨a, vs, rfl, l, r⟩ := rr
    exact Rd.list l (.inr ⟨y, xs, hu, g⟩) (r.mono sub)
  · cases (look y _ q).1
  · cases (look y _ q1).1
  · cases (look y _ q).1
  · obtain ⟨u1, u2⟩ := S.mu b m
    refine ⟨fun w => w.elim u1 fun ⟨x, xs, e, g⟩ => ?_, u2⟩
    obtain ⟨a, vs, hf, l, r⟩ := S.ownAt e
    rw [g] at hf; cases hf
    exact S.notMu l m
  · rcases q with q | ⟨x, xs, e, g⟩
    · exact S.sub b q
    · exact (S.own x xs b e g).2.2.2
  · obtain ⟨u1, o, u2⟩ := S.z b q
    exact ⟨fun w => w.elim u1 fun ⟨x, xs, e, g⟩ => (S.own x xs b e g).2.2.1 o u2, o, u2⟩

theorem SR.newOwn {h1 h2 : Heap} (S : SR C ρ h P f) (x1 : Ext h h1) (g1 : Good C.K h1) {x : Str} {xs : List PyData} {a : Addr} {vs : Array Value} (hx : ownN C.sc x) (ha : h.get? a = none) (l : h1.IsList a vs) (r : ∀ P', RdAll h1 P' xs vs.toList)
    (F' : FrameAt C.env (ownN C.sc) h2 fun y => if y = x then some (.ref a) else f y) (k : Chg C.M h1 h2) (hpl : C.pl x = true → h1.PlainList a vs) :
    ∃ P', Kp P h P' h2 ∧ SR C (setR x (.own xs) ρ) h2 P' fun y => if y = x then some (.ref a) else f y := by
  have S1 := S.ext x1 g1
  have nm := S1.notMu l
  have al : ∀ {b : Addr}, h.get? b ≠ none → b ≠ a := fun {b} q e => q (e ▸ ha)
  have lo : Loose h1 (fun b => P b ∧ b ≠ a) C.M := S1.frame.loose fun b m p => (S.mu b m).1 p.1
  have kp : Kp P h (fun b => P b ∧ b ≠ a) h2 := (Kp.into fun b p q => ⟨p, al q⟩).trans ((Kp.ofExt x1).trans (.ofChg k lo))
  have look : ∀ y v, (setR x (.own xs) ρ).lookup y = some v → (y = x ∧ v = .own xs) ∨ (y ≠ x ∧ ρ.lookup y = some v) := by
    intro y v q
    rw [lookup_setR] at q
    by_cases hy : y = x
    · rw [if_pos hy] at q; exact .inl ⟨hy, (by simpa using q.symm)⟩
    · rw [if_neg hy] at q; exact .inr ⟨hy, q⟩
  have l2 : ∀ {b : Addr} {us : Array Value}, h1.IsList b us → h2.IsList b us := fun {b us} l => by
    obtain ⟨o, ho, q⟩ := id l
    exact ⟨o, k _ _ (S1.notMu l) ho, q⟩
  have old : ∀ y ys b, ρ.lookup y = some (.own ys) → f y = some (.ref b) → b ≠ a := fun y ys b e g => by
    obtain ⟨b', us, g', ⟨o, ho, _⟩, _⟩ := S.ownAt e
    rw [g] at g'; cases g'
    exact al (by rw [ho]; exact fun e => nomatch e)
  refine ⟨_, kp, F', fun y v q => ?_, fun y ys b q g => ?_, fun y z ys zs b q1 q2 g1' g2 => ?_, fun y ys b hp q g => ?_, fun b m => ?_, ?_, g1.chg k (fun b o m e => (lo b o m e).2) (fun b m => (S.mu b m).2.1), fun b q => S.sub b q.1, fun b q => ?_, S1.holds.chg k fun b m => (S.mu b m).2.2⟩
  · rcases look y v q with ⟨rfl, rfl⟩ | ⟨hy, q⟩
    · exact ⟨hx, _, if_pos rfl, a, vs, rfl, l2 l, (r _).chg k lo.rd⟩
    · obtain ⟨n, val, g, rr⟩ := S.vars y v q
      refine ⟨n, val, (if_neg hy).trans g, ?_⟩
      exact RV.chg k lo S1.frame.noSeq ((RV.strong (fun b p q => ⟨p, al q⟩) rr).ext x1)
  · rcases look y _ q with ⟨hy, _⟩ | ⟨hy, q⟩
    · rw [if_pos hy] at g
      cases g
      exact ⟨fun p => p.2 rfl, lookup_none_of_fresh S.good.inn ha, fun o p => S.holds.alive p ha, S.sub _ (S.fresh _ ha)⟩
    · rw [if_neg hy] at g
      obtain ⟨u1, u2⟩ := S.own y ys b q g
      exact ⟨fun p => u1 p.1, u2⟩
  · rcases look y _ q1 with ⟨hy, _⟩ | ⟨hy, w1⟩ <;> rcases look z _ q2 with ⟨hz, _⟩ | ⟨hz, w2⟩
    · rw [hy, hz]
    · rw [if_pos hy] at g1'; rw [if_neg hz] at g2; cases g1'
      exact absurd rfl (old z zs _ w2 g2)
    · rw [if_neg hy] at g1'; rw [if_pos hz] at g2; cases g2
      exact absurd rfl (old y ys _ w1 g1')
    · rw [if_neg hy] at g1'; rw [if_neg hz] at g2
      exact S.dist _ _ _ _ b w1 w2 g1' g2
  · have pk : ∀ {b : Addr} {us : Array Value}, h1.PlainList b us → h2.PlainList b us := fun {b us} ⟨n, q⟩ => ⟨n, k _ _ (S1.notMu ⟨_, q, rfl, n, rfl⟩) q⟩
    rcases look y _ q with ⟨hy, _⟩ | ⟨hy, q⟩
    · rw [if_pos hy] at g; cases g
      exact ⟨vs, pk (hpl (hy ▸ hp))⟩
    · rw [if_neg hy] at g
      obtain ⟨us, w⟩ := S1.plain y ys b hp q g
      exact ⟨us, pk w⟩
  · obtain ⟨u1, u2⟩ := S.mu b m
    exact ⟨fun p => u1 p.1, u2⟩
  · refine fresh_chg (P := fun b => P b ∧ b ≠ a) (h := h1) (fun b e => ⟨S1.fresh b e, fun q => ?_⟩) k fun b m => by obtain ⟨o, ho, _⟩ := F'.mu m; rw [ho]; exact fun e => nomatch e
    obtain ⟨o, ho, _⟩ := l
    rw [q, ho] at e; cases e
  · obtain ⟨u1, u2⟩ := S.z b q
    exact ⟨fun p => u1 p.1, u2⟩

/-! ## the iterator of a loop -/
noncomputable def Cx.withIt (C : Cx) (I : Addr) (o : Obj) : Cx := { C with Pr := fun b p => C.Pr b p ∨ (b = I ∧ p = o), Z := fun b => C.Z b ∨ b = I }
structure ItOut (C : Cx) (P : Addr → Prop) (I : Addr) : Prop where
  p : ¬ P I
  k : C.K.lookup I = none
  pr : ∀ o, ¬ C.Pr I o
  m : ¬ C.M I
  pc : C.PC I
/-- the iterator is written, or gone -/
theorem SR.iter (S : SR C ρ h P f) {I : Addr} (i : ItOut C P I) {o : Obj} (ho : h.get? I = some o) (hm : Mut o) (hn : ∀ vs n, o.data ≠ .seq vs n) (k : Chg (· = I) h h') : SR C ρ h' (fun a => P a ∨ h'.get? a = none) f ∧ Loose h P (· = I) := by
  have lo : Loose h P (· = I) := fun b o' e q => by subst e; rw [ho] at q; cases q; exact ⟨i.p, hm⟩
  have dead : ∀ b, h'.get? b = none → P b ∨ b = I := fun b e => by
    cases q : h.get? b with
    | none => exact .inl (S.fresh b q)
    | some o' =>
      by_cases m : b = I
      · exact .inr m
      · rw [k b o' m q] at e; cases e
  have noI : ∀ y ys b, ρ.lookup y = some (.own ys) → f y = some (.ref b) → b ≠ I := fun y ys b e g => by
    obtain ⟨b', us, g', ⟨o', ho', _, n, hd⟩, _⟩ := S.ownAt e
    rw [g] at g'; cases g'
    intro w; rw [w, ho] at ho'; cases ho'; exact hn _ _ hd
  refine ⟨⟨S.frame.chg k fun b m q => i.m (q ▸ m), fun y v q => ?_, fun y ys b q g => ?_, S.dist, fun y ys b hp q g => ?_, fun b m => ?_, fun b e => .inr e, S.good.chg k (fun b o m e => (lo b o m e).2) (fun b m => by rw [m]; exact i.k), fun b q => ?_, fun b q => ?_, S.holds.chg k fun b m => by rw [m]; exact i.pr⟩, lo⟩
  · obtain ⟨n, val, g, rr⟩ := S.vars y v q
    refine ⟨n, val, g, RV.mono (fun _ p => .inl p) (RV.chg k lo (fun b o' m e => ?_) rr)⟩
    rw [m, ho] at e; cases e; exact hn
  · obtain ⟨u1, u2⟩ := S.own y ys b q g
    refine ⟨fun w => w.elim u1 fun e => ?_, u2⟩
    obtain ⟨b', us, g', ⟨o', ho', _⟩, _⟩ := S.ownAt q
    rw [g] at g'; cases g'
    rw [k b o' (noI y ys b q g) ho'] at e; cases e
  · obtain ⟨us, n, w⟩ := S.plain y ys b hp q g
    exact ⟨us, n, k _ _ (noI y ys b q g) w⟩
  · obtain ⟨u1, u2⟩ := S.mu b m
    refine ⟨fun w => w.elim u1 fun e => ?_, u2⟩
    obtain ⟨o', ho', _⟩ := S.frame.mu m
    rw [k b o' (fun q => i.m (q ▸ m)) ho'] at e; cases e
  · rcases q with q | q
    · exact S.sub b q
    · rcases dead b q with q | q
      · exact S.sub b q
      · rw [q]; exact i.pc
  · obtain ⟨u1, o', u2⟩ := S.z b q
    refine ⟨fun w => w.elim u1 fun e => ?_, o', u2⟩
    rcases dead b e with w | w
    · exact u1 w
    · exact i.pr o' (w ▸ u2)
theorem SR.iterOn (S : SR C ρ h P f) {I : Addr} (i : ItOut C P I) {o : Obj} (ho : h.get? I = some o) (hm : Mut o) (hn : ∀ vs n, o.data ≠ .seq vs n) (k : Chg (· = I) h h') (hI : h'.get? I ≠ none) : SR C ρ h' P f := by
  obtain ⟨S', lo⟩ := S.iter i ho hm hn k
  have fr : FreshOk P h' := fresh_chg S.fresh k fun b m => by rw [m]; exact hI
  refine ⟨S'.frame, fun y v q => ?_, S.own, S'.dist, S'.plain, S.mu, fr, S'.good, S.sub, S.z, S'.holds⟩
  obtain ⟨n, val, g, rr⟩ := S'.vars y v q
  exact ⟨n, val, g, RV.mono (fun a p => p.elim id (fr a)) rr⟩
theorem SR.protect (S : SR C ρ h P f) {I : Addr} (i : ItOut C P I) {o : Obj} (ho : h.get? I = some o) (hn : ∀ vs n, o.data ≠ .seq vs n) : SR (C.withIt I o) ρ h P f := by
  refine ⟨S.frame, S.vars, fun y ys b q g => ?_, S.dist, S.plain, fun b m => ?_, S.fresh, S.good, S.sub, fun b q => ?_, fun b p e => ?_⟩
  · obtain ⟨u1, u2, u3, u4⟩ := S.own y ys b q g
    refine ⟨u1, u2, fun p w => w.elim (u3 p) fun w => ?_, u4⟩
    obtain ⟨b', us, g', ⟨o', ho', _, n, hd⟩, _⟩ := S.ownAt q
    rw [g] at g'; cases g'
    rw [w.1, ho] at ho'; cases ho'; exact hn _ _ hd
  · obtain ⟨u1, u2, u3⟩ := S.mu b m
    exact ⟨u1, u2, fun p w => w.elim (u3 p) fun w => i.m (w.1 ▸ m)⟩
  · rcases q with q | q
    · obtain ⟨u1, o', u2⟩ := S.z b q
      exact ⟨u1, o', .inl u2⟩
    · rw [q]; exact ⟨i.p, o, .inr ⟨rfl, rfl⟩⟩
  · rcases e with e | e
    · exact S.holds b p e
    · rw [e.1, e.2]; exact .inl ho
theorem SR.unprotect {I : Addr} {o : Obj} (S : SR (C.withIt I o) ρ h P f) (hc : o.cls ≠ .none) (hz : ∀ b, C.Z b → ∃ o, C.Pr b o) : SR C ρ h P f ∧ h.get? I = some o ∧ ¬ P I := by
  refine ⟨⟨S.frame, S.vars, fun y ys b q g => ?_, S.dist, S.plain, fun b m => ?_, S.fresh, S.good, S.sub, fun b q => ?_, fun b p e => S.holds b p (.inl e)⟩, ?_, (S.z I (.inr rfl)).1⟩
  · obtain ⟨u1, u2, u3, u4⟩ := S.own y ys b q g
    exact ⟨u1, u2, fun p w => u3 p (.inl w), u4⟩
  · obtain ⟨u1, u2, u3⟩ := S.mu b m
    exact ⟨u1, u2, fun p w => u3 p (.inl w)⟩
  · exact ⟨(S.z b (.inl q)).1, hz b q⟩
  · rcases S.holds I o (.inr ⟨rfl, rfl⟩) with q | ⟨_, vs, _, q, _⟩
    · exact q
    · rw [q] at hc; exact absurd rfl hc
end
end Mine
namespace Mine
open PySem PySem.Spec PySem.Calls PySem.W PyProof.Rows
open PySem.Builtin PySem.Builtin.Str

/-! ## the evaluator of statements -/
inductive Fl where
  | nx (ρ : Rho)
  | brk (ρ : Rho)
  | ret (v : V)
noncomputable def isOwnB (sc : Sc) (x : Str) : Bool := sc.lookup x == some .local || sc.lookup x == some .cell
theorem isOwnB_iff {sc : Sc} {x : Str} (h : isOwnB sc x = true) : ownN sc x := by
  unfold isOwnB at h
  rw [Bool.or_eq_true] at h
  exact h.imp (by simp) (by simp)
/-! ## what it says is so -/
noncomputable def FlOk (C : Cx) (P : Addr → Prop) (s : Shared) (Q : Flow → Shared → Prop) : Fl → Prop
  | .nx ρ' => ∀ h' tk P' f', SR C ρ' h' P' f' → Kp P s.heap P' h' → Q .next { s with heap := h', toks := tk }
  | .brk ρ' => ∀ h' tk P' f', SR C ρ' h' P' f' → Kp P s.heap P' h' → Q .brk { s with heap := h', toks := tk }
  | .ret v => ∀ h' tk val, Holds C.Pr h' → Good C.K h' → RV h' C.PC v val → Q (.ret val) { s with heap := h', toks := tk }
theorem FlOk.after {C : Cx} {P P1 : Addr → Prop} {s : Shared} {Q : Flow → Shared → Prop} {h1 : Heap} {tk1 : Nat} {r : Fl} (k : Kp P s.heap P1 h1) (o : FlOk C P s Q r) : FlOk C P1 { s with heap := h1, toks := tk1 } Q r := by
  cases r with
  | nx ρ' => exact fun h' tk P' f' S k' => o h' tk P' f' S (k.trans k')
  | brk ρ' => exact fun h' tk P' f' S k' => o h' tk P' f' S (k.trans k')
  | ret v => exact fun h' tk val a b c => o h' tk val a b c

section
variable (w : World) (K : Frag) (l : Nat) (sc : Sc) (ow : List (Str × Bool))
structure CxOk (C : Cx) : Prop where
  k : C.K = K
  hsc : C.sc = sc
  pl : ∀ x, C.pl x = (ow.lookup x == some true)
  env : EnvOk C.env sc
/-- a statement, a block: how it goes on -/
def St (ρ : Rho) (st : Stmt) (r : Fl) : Prop := ∀ (C : Cx) (A : Around) (s : Shared) (P : Addr → Prop) (f : Str → Option Value) (Q : Flow → Shared → Prop) (E : Value → Shared → Prop),
  CxOk K sc ow C → Room l A → SR C ρ s.heap P f → FlOk C P s Q r → wpAny (model prog w) A (exec st C.env) Q E s
def Bk (ρ : Rho) (body : List Stmt) (r : Fl) : Prop := ∀ (C : Cx) (A : Around) (s : Shared) (P : Addr → Prop) (f : Str → Option Value) (Q : Flow → Shared → Prop) (E : Value → Shared → Prop),
  CxOk K sc ow C → Room l A → SR C ρ s.heap P f → FlOk C P s Q r → wpAny (model prog w) A (execs body C.env) Q E s
/-- a comprehension that is used at once -/
def Us (sc : Sc) (ρ : Rho) (e : Expr) (v : V) : Prop := ∀ (A : Around) (s : Shared) (P : Addr → Prop) (Q : Shared → Prop) (E : Value → Shared → Prop) (env : Env) (use : Value → Sem Unit), Room l A → Good K s.heap → FreshOk P s.heap → EnvOk env sc → EnvRel env ρ s.heap P →
  (∀ D C h' tk, CompEnd K P v s D C h' → wpAny (model prog w) A (use (.ref D)) (fun _ s'' => ∃ m, s''.heap.Ns C m ∧ ∀ h', Heap.SameBut C s''.heap h' → Q { s'' with heap := h' }) E { s with heap := h', toks := tk }) →
  wpAny (model prog w) A (evalThenUse e env use) (fun _ => Q) E s
end

section
variable {w : World} {K : Frag} {l : Nat} {sc : Sc} {ow : List (Str × Bool)}
/-- an expression is evaluated in a state -/
theorem sr_eval {C : Cx} (c : CxOk K sc ow C) {A : Around} {s : Shared} {P : Addr → Prop} {f : Str → Option Value} {E : Value → Shared → Prop} {e : Expr} {ρ : Rho} {v : V} {Q : Value → Shared → Prop} (hv : Ev w K l sc ρ e v) (ro : Room l A)
    (S : SR C ρ s.heap P f) (hQ : ∀ h' tk val, SR C ρ h' P f → Ext s.heap h' → Good K h' → RV h' P v val → Q val { s with heap := h', toks := tk }) : wpAny (model prog w) A (eval e C.env) Q E s :=
  hv A s P Q E C.env ro (c.k ▸ S.good) S.fresh c.env S.envRel fun h' tk val x g r => hQ h' tk val (S.ext x (c.k ▸ g)) x g r
theorem sr_test {C : Cx} (c : CxOk K sc ow C) {A : Around} {s : Shared} {P : Addr → Prop} {f : Str → Option Value} {E : Value → Shared → Prop} {e : Expr} {ρ : Rho} {b : Bool} {Q : Bool → Shared → Prop} (hv : Tv w K l sc ρ e b) (ro : Room l A)
    (S : SR C ρ s.heap P f) (hQ : ∀ h' tk, SR C ρ h' P f → Ext s.heap h' → Q b { s with heap := h', toks := tk }) : wpAny (model prog w) A (isTrue e C.env (eval e C.env)) Q E s :=
  hv A s P Q E C.env ro (c.k ▸ S.good) S.fresh c.env S.envRel fun h' tk x g => hQ h' tk (S.ext x (c.k ▸ g)) x

theorem bind_notOwn {target : Expr} {v : V} {b : Rho} (e : BindR target v b) (ho : notOwn v = true) : ∀ x u, b.lookup x = some u → notOwn u = true := by
  intro x u hx
  cases e with
  | name =>
    have := List.mem_singleton.mp (lookup_mem hx)
    cases this; exact ho
  | pair =>
    rcases List.mem_cons.mp (lookup_mem hx) with q | m
    · cases q; rfl
    · have := List.mem_singleton.mp m
      cases this; rfl
/-- a target is given a value -/
theorem sr_bind {C : Cx} (c : CxOk K sc ow C) {A : Around} {s : Shared} {P : Addr → Prop} {f : Str → Option Value} {E : Value → Shared → Prop} {ρ : Rho} {target : Expr} {v : V} {b : Rho} {val : Value} {Q : Unit → Shared → Prop} (e : BindR target v b) (hn : ∀ p ∈ b, isOwnB sc p.1 = true) (ho : notOwn v = true)
    (ro : Room l A) (S : SR C ρ s.heap P f) (r : RV s.heap P v val) (hQ : ∀ h' tk f', SR C (setAll b ρ) h' P f' → Chg C.M s.heap h' → Q () { s with heap := h', toks := tk }) : wpAny (model prog w) A (assign target C.env val) Q E s := by
  have hn' : ∀ p ∈ b, ownN C.sc p.1 := fun p m => c.hsc ▸ isOwnB_iff (hn p m)
  refine assign_sound e ro.handled r S.frame hn' (fun a m => (S.mu a m).1) fun h' tk f' F' k h1 h2 => ?_
  exact hQ h' tk f' (S.assign F' k hn' (bind_notOwn e ho) h1 h2) k
theorem setAll_one {x : Str} {v : V} {ρ : Rho} : setAll [(x, v)] ρ = setR x v ρ := rfl
theorem sr_bindName {C : Cx} (c : CxOk K sc ow C) {A : Around} {s : Shared} {P : Addr → Prop} {f : Str → Option Value} {E : Value → Shared → Prop} {ρ : Rho} {x : Str} {v : V} {val : Value} {Q : Unit → Shared → Prop} (hx : isOwnB sc x = true) (ho : notOwn v = true)
    (S : SR C ρ s.heap P f) (r : RV s.heap P v val) (hQ : ∀ h' tk f', SR C (setR x v ρ) h' P f' → Chg C.M s.heap h' → Q () { s with heap := h', toks := tk }) : wpAny (model prog w) A (storeName C.env x val) Q E s := by
  have hn : ownN C.sc x := by rw [c.hsc]; exact isOwnB_iff hx
  refine store_frame S.frame hn fun h' tk F' k => ?_
  refine hQ h' tk _ (setAll_one ▸ S.assign F' k (b := [(x, v)]) (fun p m => ?_) (fun y u hy => ?_) (fun y hy => ?_) fun y u hy => ?_) k
  · rw [List.mem_singleton.mp m]; exact hn
  · have := List.mem_singleton.mp (lookup_mem hy)
    cases this; exact ho
  · cases q : y == x with
    | true => rw [List.lookup_cons, q] at hy; cases hy
    | false => exact if_neg (ne_of_beq_false q)
  · have := List.mem_singleton.mp (lookup_mem hy)
    cases this
    exact ⟨val, if_pos rfl, RV.chg k S.loose S.frame.noSeq r⟩
/-- an address is set apart -/
theorem sr_reserve {C : Cx} {ρ : Rho} {h h' : Heap} {P : Addr → Prop} {f : Str → Option Value} (S : SR C ρ h P f) (x : Ext h h') (g : Good C.K h') {I : Addr} (hI : h.get? I = none) (hI' : h'.get? I ≠ none) :
    SR C ρ h' (fun a => P a ∧ a ≠ I) f ∧ ItOut C (fun a => P a ∧ a ≠ I) I ∧ Kp P h (fun a => P a ∧ a ≠ I) h' := by
  have al : ∀ {b : Addr}, h.get? b ≠ none → b ≠ I := fun {b} q e => q (e ▸ hI)
  refine ⟨⟨S.frame.ext x, fun y v q => ?_, fun y ys b q g => ?_, S.dist, (S.ext x g).plain, fun b m => ?_, fun b e => ⟨S.fresh b (x.none e), fun q => hI' (q ▸ e)⟩, g, fun b q => S.sub b q.1, fun b q => ?_, S.holds.ext x⟩,
    ⟨fun p => p.2 rfl, lookup_none_of_fresh S.good.inn hI, fun o p => S.holds.alive p hI, fun m => ?_, S.sub _ (S.fresh _ hI)⟩, (Kp.into fun b p q => ⟨p, al q⟩).trans (.ofExt x)⟩
  · obtain ⟨n, val, g, rr⟩ := S.vars y v q
    exact ⟨n, val, g, (RV.strong (fun b p q => ⟨p, al q⟩) rr).ext x⟩
  · obtain ⟨u1, u2⟩ := S.own y ys b q g
    exact ⟨fun p => u1 p.1, u2⟩
  · obtain ⟨u1, u2⟩ := S.mu b m
    exact ⟨fun p => u1 p.1, u2⟩
  · obtain ⟨u1, u2⟩ := S.z b q
    exact ⟨fun p => u1 p.1, u2⟩
  · obtain ⟨o, ho, _⟩ := S.frame.mu m
    rw [hI] at ho; cases ho
end
end Mine
namespace Mine
open PySem PySem.Spec PySem.Calls PySem.W PyProof.Rows
open PySem.Builtin PySem.Builtin.Str

section
variable {w : World} {K : Frag} {l : Nat} {sc : Sc} {ow : List (Str × Bool)} {ρ : Rho} {p : Pos}

theorem used {A : Around} {s : Shared} {Q : Shared → Prop} {E : Value → Shared → Prop} {t : Sem Value} (ht : wpAny (model prog w) A t (fun _ => Q) E s) : wpAny (model prog w) A (t >>= fun _ => (pure () : Sem Unit)) (fun _ => Q) E s := wpAny_bind (wpAny_mono ht (fun _ _ q => wpAny_pure q) fun _ _ x => x)
theorem us_comp {elt target iter : Expr} {ifs : List Expr} {scope : Scope} {v0 v : V} {us zs : List V} (c : CompH sc scope) (c4 : PlainIter iter) (hi : Ev w K l sc ρ iter v0) (ho : notOwn v0 = true) (hu : ItemsR v0 us) (hr : CompR w K l elt target ifs scope.names (innerRho scope.names ρ) us zs) (hl : short zs.length = true) (h : PackR zs v) :
    Us w K l sc ρ (.ListComp elt [⟨target, iter, ifs, 0⟩] scope p) v := fun A s P Q E env use ro g f ok er hend =>
  used (comp_one (use := some use) c.c1 c.c2 c.c3 c4 hi ho hu hr hl h ro g f ok er fun D C h' tk ce => hend D C h' tk ce)
theorem us_comp2 {elt t0 iter0 t1 iter1 : Expr} {ifs0 ifs1 : List Expr} {scope : Scope} {v0 v : V} {us zs : List V} (c : CompH sc scope) (c4 : PlainIter iter0) (c5 : PlainIter iter1) (hi : Ev w K l sc ρ iter0 v0) (ho : notOwn v0 = true) (hu : ItemsR v0 us)
    (hr : CompR2 w K l elt t0 ifs0 t1 iter1 ifs1 scope.names (innerRho scope.names ρ) us zs) (hl : short zs.length = true) (h : PackR zs v) :
    Us w K l sc ρ (.ListComp elt [⟨t0, iter0, ifs0, 0⟩, ⟨t1, iter1, ifs1, 0⟩] scope p) v := fun A s P Q E env use ro g f ok er hend =>
  used (comp_two (use := some use) c.c1 c.c2 c.c3 c4 c5 hi ho hu hr hl h ro g f ok er fun D C h' tk ce => hend D C h' tk ce)
/-- no value that the kit swaps in -/
def NoSwap (t value : Expr) : Prop := ∀ line env, swapsWith value (some t) line env = pure false

variable {C : Cx} {A : Around} {s : Shared} {P : Addr → Prop} {f : Str → Option Value} {Q : Flow → Shared → Prop} {E : Value → Shared → Prop}

theorem st_name {x : Str} {p pos : Pos} {value : Expr} {v : V} (hn : NoSwap (.Name x p) value) (hx : isOwnB sc x = true) (hv : Ev w K l sc ρ value v) (ho : notOwn v = true) : St w K l sc ow ρ (.Assign [.Name x p] value pos) (.nx (setR x v ρ)) := fun C A s P f Q E c ro S o => by
  refine wpAny_Assign_Name (sr_eval c hv ro S fun h1 tk1 val S1 x1 g1 r1 => ?_) (hn _ _)
  exact sr_bindName c (s := { s with heap := h1, toks := tk1 }) hx ho S1 r1 fun h2 tk2 f2 S2 k2 => o h2 tk2 P f2 S2 ((Kp.ofExt x1).trans (.ofChg k2 S1.loose))

theorem st_comp {x : Str} {p pos : Pos} {elt : Expr} {gens : List Comprehension} {scope : Scope} {cp : Pos} {v : V} (hx : isOwnB sc x = true) (hv : Ev w K l sc ρ (.ListComp elt gens scope cp) v) (U : Us w K l sc ρ (.ListComp elt gens scope cp) v) (ho : notOwn v = true) : St w K l sc ow ρ (.Assign [.Name x p] (.ListComp elt gens scope cp) pos) (.nx (setR x v ρ)) := fun C A s P f Q E c ro S o => by
  have hb : ∃ b, swapsWith (.ListComp elt gens scope cp) (some (.Name x p)) pos.line C.env = pure b := ⟨_, rfl⟩
  obtain ⟨b, hb⟩ := hb
  cases b with
  | false =>
    refine wpAny_Assign_Name (sr_eval c hv ro S fun h1 tk1 val S1 x1 g1 r1 => ?_) hb
    exact sr_bindName c (s := { s with heap := h1, toks := tk1 }) hx ho S1 r1 fun h2 tk2 f2 S2 k2 => o h2 tk2 P f2 S2 ((Kp.ofExt x1).trans (.ofChg k2 S1.loose))
  | true =>
    rw [exec_Assign_Name_used _ _ _ _ hb]
    refine wpAny_bind (wpAny_standAt (wpAny_bind ?_))
    refine U A s P (fun s' => wpAny (model prog w) A (pure Flow.next) Q E s') E C.env _ ro (c.k ▸ S.good) S.fresh c.env S.envRel fun D B h1 tk1 ce => ?_
    obtain ⟨m, hm⟩ := ce.ns
    obtain ⟨oB, es, ep, hoB, hdB, hrB⟩ := id hm
    have hB' : h1.get? B ≠ none := by rw [hoB]; exact fun e => nomatch e
    obtain ⟨S1, i1, k1⟩ := sr_reserve S ce.ext (c.k ▸ ce.good) ce.fresh hB'
    refine wpAny_assign_Name (sr_bindName c (s := { s with heap := h1, toks := tk1 }) hx ho S1 ce.rv fun h2 tk2 f2 S2 k2 => ?_)
    have hoB2 : h2.get? B = some oB := k2 _ _ i1.m hoB
    refine ⟨m, ⟨oB, es, ep, hoB2, hdB, hrB⟩, fun h3 sb => wpAny_pure ?_⟩
    have k3 : Chg (· = B) h2 h3 := fun b o hb e => (sb.2 b hb).trans e
    obtain ⟨S3, lo3⟩ := S2.iter i1 hoB2 (.dict hdB) (fun _ _ e => by rw [hdB] at e; cases e) k3
    exact o h3 tk2 _ f2 S3 (k1.trans ((Kp.ofChg k2 S1.loose).trans ((Kp.ofChg k3 lo3).trans (.into fun a p _ => .inl p))))

theorem st_new {x : Str} {p pos lp : Pos} (hx : isOwnB sc x = true) : St w K l sc ow ρ (.Assign [.Name x p] (.List [] lp) pos) (.nx (setR x (.own []) ρ)) := fun C A s P f Q E c ro S o => by
  have hn : ownN C.sc x := by rw [c.hsc]; exact isOwnB_iff hx
  refine wpAny_Assign_Name (wpAny_List (wpAny_items_nil ⟨by decide, ?_⟩)) rfl
  have x1 : Ext s.heap (s.heap.push { cls := .type "list", data := .seq #[] }) := ext_push _ _
  refine store_frame (s := { s with heap := s.heap.push { cls := .type "list", data := .seq #[] } }) (S.frame.ext x1) hn fun h2 tk2 F2 k2 => ?_
  have hl : (s.heap.push { cls := .type "list", data := .seq #[] }).PlainList s.heap.objs.size #[] := ⟨0, Heap.get?_push_size _ rfl⟩
  obtain ⟨P', kp, S'⟩ := S.newOwn x1 (S.good.push _) (xs := []) hn (fresh_none _) hl.isList (fun _ => RdAll.nil) F2 k2 fun _ => hl
  exact o h2 tk2 P' _ S' kp

theorem st_own {x : Str} {p pos : Pos} {value : Expr} {xs : List PyData} (hn : NoSwap (.Name x p) value) (hx : isOwnB sc x = true) (how : ow.lookup x = some false) (hfl : ρ.all (fun p => flatV p.2) = true) (hv : Ev w K l sc ρ value (.d (.list xs))) (hxs : xs.all flatD = true) : St w K l sc ow ρ (.Assign [.Name x p] value pos) (.nx (setR x (.own xs) ρ)) := fun C A s P f Q E c ro S o => by
  have hn' : ownN C.sc x := by rw [c.hsc]; exact isOwnB_iff hx
  refine wpAny_Assign_Name ?_ (hn _ _)
  refine hv A s (fun a => s.heap.get? a = none) _ E C.env ro (c.k ▸ S.good) (fun a e => e) c.env (fun y v hy => ?_) fun h1 tk1 val x1 g1 r1 => ?_
  · obtain ⟨val, n, r⟩ := S.envRel y v hy
    exact ⟨val, n, RV.flat (List.all_eq_true.mp hfl _ (lookup_mem hy)) r⟩
  · obtain ⟨a, vs, rfl, ha, hl, hr⟩ := Rd.list_inv r1
    refine store_frame (s := { s with heap := h1, toks := tk1 }) (S.frame.ext x1) hn' fun h2 tk2 F2 k2 => ?_
    obtain ⟨P', kp, S'⟩ := S.newOwn x1 (c.k ▸ g1) hn' ha hl (fun P' => hr.flat hxs) F2 k2 fun q => by rw [c.pl, how] at q; cases q
    exact o h2 tk2 P' _ S' kp

noncomputable def tupOk (vs : List Expr) : Bool := vs.all (foldedForSure 8) || !(vs.all (constantsAlone 8))
/-- the order of two names' stores -/
def TwoSt (x y : Str) (t value : Expr) : Prop := ∀ env, swappedStores [t] value env = pure none ∨ swappedStores [t] value env = pure (some [x, y])
theorem swapped_two {x y : Str} {px py tp p' : Pos} {k k' : Nat} {vs : List Expr} (h : tupOk vs = true) (hxy : x ≠ y) : TwoSt x y (.Tuple [.Name x px, .Name y py] k tp) (.Tuple vs k' p') := by
  intro env
  unfold tupOk at h
  unfold swappedStores
  dsimp only
  split
  · exact .inl rfl
  split
  · exact .inl rfl
  split
  · exact .inl rfl
  rename_i h1 h2 h3
  split
  · exact .inl rfl
  rename_i h4
  split
  · rename_i h5
    rw [Bool.or_eq_true] at h
    rcases h with h | h
    · exact absurd h h4
    · rw [h5] at h; cases h
  right
  generalize hN : List.filterMap _ [Expr.Name x px, Expr.Name y py] = N at h3 ⊢
  have hlen : N.length = 2 := by
    have : ¬ (N.length != 2) = true := fun q => h3 (by rw [Bool.or_eq_true]; exact .inl q)
    simpa using this
  have : N = [x, y] := by
    rw [← hN] at hlen ⊢
    simp only [List.filterMap_cons, List.filterMap_nil] at hlen ⊢
    split at hlen <;> split at hlen <;> simp_all
  rw [this]
end
end Mine
namespace Mine
open PySem PySem.Spec PySem.Calls PySem.W PyProof.Rows
open PySem.Builtin PySem.Builtin.Str

section
variable {w : World} {K : Frag} {l : Nat} {sc : Sc} {ow : List (Str × Bool)}
variable {C : Cx} {A : Around} {s : Shared} {P : Addr → Prop} {f : Str → Option Value} {Q : Flow → Shared → Prop} {E : Value → Shared → Prop} {ρ : Rho}

theorem st_tuple {x y : Str} {px py tp pos : Pos} {k : Nat} {value : Expr} {d1 d2 : PyData} (hs : ∀ line env, swapsWithSole [.Tuple [.Name x px, .Name y py] k tp] value line env = pure false) (hw : TwoSt x y (.Tuple [.Name x px, .Name y py] k tp) value)
    (hx : isOwnB sc x = true) (hy : isOwnB sc y = true) (hxy : (x == y) = false) (hv : Ev w K l sc ρ value (.d (.tuple [d1, d2]))) : St w K l sc ow ρ (.Assign [.Tuple [.Name x px, .Name y py] k tp] value pos) (.nx (setR x (.d d1) (setR y (.d d2) ρ))) := fun C A s P f Q E c ro S o => by
  rcases hw C.env with hw | hw
  · refine Assign_Tuple (sr_eval c hv ro S fun h1 tk1 val S1 x1 g1 r1 => ?_) (hs _ _) hw
    refine sr_bind c (s := { s with heap := h1, toks := tk1 }) (.pair hxy) (fun p m => ?_) rfl ro S1 r1 fun h2 tk2 f2 S2 k2 => o h2 tk2 P f2 S2 ((Kp.ofExt x1).trans (.ofChg k2 S1.loose))
    cases m with
    | head => exact hx
    | tail _ m => cases m with
      | head => exact hy
      | tail _ m => cases m
  · refine Assign_Tuple_swapped (sr_eval c hv ro S fun h1 tk1 val S1 x1 g1 r1 => ?_) (hs _ _) hw
    obtain ⟨t, vs, rfl, htt, hr⟩ := Rd.tuple_inv r1
    obtain ⟨u1, vs', e1, q1, hr⟩ := hr.cons_inv
    obtain ⟨u2, vs'', e2, q2, hr⟩ := hr.cons_inv
    have e3 := hr.nil_inv
    subst e3 e2
    have e4 : vs = #[u1, u2] := Array.ext' e1
    subst e4
    have hU := @wpAny_unpackItems_tuple prog w A E { s with heap := h1, toks := tk1 } t #[u1, u2] (fun items s₂ => wpAny (model prog w) A (assignInOrder ([x, y].reverse.map fun n => bindName C.env n) items.reverse) (fun _ => Q .next) E s₂) ro.handled htt
    refine hU fun h2 k2 => ?_
    have k2' : ∀ b o, h1.get? b = some o → h2.get? b = some o := fun b o e => k2 b o (Nat.ne_of_lt (Heap.lt_size e)) e
    have x2 : Ext h1 h2 := .of_keep k2'
    have S2 := S1.ext x2 (S1.good.keep k2')
    show wpAny _ _ (do holding [u1] (bindName C.env y u2); (do holding [] (bindName C.env x u1); pure ())) _ _ _
    refine wpAny_bind (wpAny_holding (wpAny_bindName (sr_bindName c (s := { s with heap := h2, toks := tk1 }) (v := .d d2) hy rfl S2 (q2.ext x2) fun h3 tk3 f3 S3 k3 => ?_)))
    refine wpAny_bind (wpAny_holding (wpAny_bindName (sr_bindName c (s := { s with heap := h3, toks := tk3 }) (v := .d d1) hx rfl S3 (RV.chg (v := .d d1) k3 S2.loose S2.frame.noSeq (q1.ext x2)) fun h4 tk4 f4 S4 k4 => wpAny_pure ?_)))
    exact o h4 tk4 P f4 S4 (((Kp.ofExt (x1.trans x2)).trans (.ofChg k3 S2.loose)).trans (.ofChg k4 S3.loose))

theorem st_three {x y z : Str} {p1 p2 p3 pos : Pos} {value : Expr} {d : PyData} (hw : ∀ env, swappedStores [.Name x p1, .Name y p2, .Name z p3] value env = pure none) (hx : isOwnB sc x = true) (hy : isOwnB sc y = true) (hz : isOwnB sc z = true) (hv : Ev w K l sc ρ value (.d d)) (hf : flatD d = true) : St w K l sc ow ρ (.Assign [.Name x p1, .Name y p2, .Name z p3] value pos) (.nx (setR z (.d d) (setR y (.d d) (setR x (.d d) ρ)))) := fun C A s P f Q E c ro S o => by
  refine wpAny_Assign_three (sr_eval c hv ro S fun h1 tk1 val S1 x1 g1 r1 => ?_) rfl (hw _)
  refine wpAny_assign_Name (sr_bindName c (s := { s with heap := h1, toks := tk1 }) (v := .d d) hx rfl S1 r1 fun h2 tk2 f2 S2 k2 => ?_)
  refine wpAny_assign_Name (sr_bindName c (s := { s with heap := h2, toks := tk2 }) (v := .d d) hy rfl S2 (Rd.flat hf r1) fun h3 tk3 f3 S3 k3 => ?_)
  refine wpAny_assign_Name (sr_bindName c (s := { s with heap := h3, toks := tk3 }) (v := .d d) hz rfl S3 (Rd.flat hf r1) fun h4 tk4 f4 S4 k4 => ?_)
  exact o h4 tk4 P f4 S4 ((((Kp.ofExt x1).trans (.ofChg k2 S1.loose)).trans (.ofChg k3 S2.loose)).trans (.ofChg k4 S3.loose))

theorem st_aug {x : Str} {p pos : Pos} {op : Operator} {value : Expr} {i j k : Int} (hop : (op = .Add ∧ k = i + j) ∨ (op = .Sub ∧ k = i - j)) (hx : isOwnB sc x = true) (hcd : (x == ("__classdict__" : Str)) = false)
    (hi : ρ.lookup x = some (.d (.int i))) (hv : Ev w K l sc ρ value (.d (.int j))) : St w K l sc ow ρ (.AugAssign (.Name x p) op value pos) (.nx (setR x (.d (.int k)) ρ)) := fun C A s P f Q E c ro S o => by
  obtain ⟨val, n, r⟩ := S.envRel x _ hi
  obtain ⟨t, rfl⟩ := Rd.int_inv r
  refine wpAny_AugAssign_Name (load_name c.env n hcd ?_)
  refine sr_eval c hv ro S fun h1 tk1 val S1 x1 g1 r1 => ?_
  obtain ⟨u, rfl⟩ := Rd.int_inv r1
  have fin : wpAny (model prog w) A (storeName C.env x (.int k tk1)) (fun _ => Q .next) E { s with heap := h1, toks := tk1 + 1 } := by
    refine sr_bindName c (s := { s with heap := h1, toks := tk1 + 1 }) (v := .d (.int k)) hx rfl S1 (Rd.int _ _) fun h2 tk2 f2 S2 k2 => ?_
    exact o h2 tk2 P f2 S2 ((Kp.ofExt x1).trans (.ofChg k2 S1.loose))
  rcases hop with ⟨rfl, rfl⟩ | ⟨rfl, rfl⟩
  · exact wpAny_iadd_int fin
  · exact isub_int fin

theorem RdAll.set {h : Heap} {P : Addr → Prop} {ds : List PyData} {vs : List Value} (k : Nat) {d : PyData} {v : Value} (r : RdAll h P ds vs) (q : Rd h P d v) : RdAll h P (ds.set k d) (vs.set k v) := by
  induction ds generalizing vs k with
  | nil => rw [r.nil_inv]; exact RdAll.nil
  | cons e ds ih =>
    obtain ⟨u, us, rfl, r1, r2⟩ := r.cons_inv
    cases k with
    | zero => exact RdAll.cons q r2
    | succ k => exact RdAll.cons r1 (ih k r2)
theorem RdAll.erase {h : Heap} {P : Addr → Prop} {ds : List PyData} {vs : List Value} (k : Nat) (r : RdAll h P ds vs) : RdAll h P (ds.eraseIdx k) (vs.eraseIdx k) := by
  induction ds generalizing vs k with
  | nil => rw [r.nil_inv]; exact RdAll.nil
  | cons e ds ih =>
    obtain ⟨u, us, rfl, r1, r2⟩ := r.cons_inv
    cases k with
    | zero => exact r2
    | succ k => exact RdAll.cons r1 (ih k r2)

/-- an owned name is read -/
theorem sr_own (c : CxOk K sc ow C) (S : SR C ρ s.heap P f) {x : Str} {p : Pos} {xs : List PyData} {R : Value → Shared → Prop} (e : ρ.lookup x = some (.own xs)) (hx : (x == ("__classdict__" : Str)) = false) (hd : (x == ("__debug__" : Str)) = false)
    (h : ∀ a vs, f x = some (.ref a) → s.heap.IsList a vs → RdAll s.heap P xs vs.toList → R (.ref a) s) : wpAny (model prog w) A (eval (.Name x p) C.env) R E s := by
  obtain ⟨a, vs, hf, hl, hr⟩ := S.ownAt e
  obtain ⟨hn, _⟩ := S.vars x _ e
  exact wpAny_Name (load_name c.env (S.frame.nameIs hn hf) hx (h a vs hf hl hr)) hd

theorem st_sub {x : Str} {p sp pos : Pos} {i value : Expr} {xs : List PyData} {d : PyData} {k : Int} (hn : NoSwap (.Subscript (.Name x p) i sp) value) (how : ow.lookup x = some false) (hx : (x == ("__classdict__" : Str)) = false) (hd : (x == ("__debug__" : Str)) = false)
    (e : ρ.lookup x = some (.own xs)) (hv : Ev w K l sc ρ value (.d d)) (hi : Ev w K l sc ρ i (.d (.int k))) (h0 : 0 ≤ k) (hk : k < (xs.length : Int)) (hsh : short xs.length = true) : St w K l sc ow ρ (.Assign [.Subscript (.Name x p) i sp] value pos) (.nx (setR x (.own (xs.set k.toNat d)) ρ)) := fun C A s P f Q E c ro S o => by
  refine wpAny_Assign_Subscript (sr_eval c hv ro S fun h1 tk1 val S1 x1 g1 r1 => ?_) (hn _ _)
  refine sr_own c (s := { s with heap := h1, toks := tk1 }) S1 e hx hd fun a vs hf _ _ => ?_
  refine sr_eval c (s := { s with heap := h1, toks := tk1 }) hi ro S1 fun h2 tk2 iv S2 x2 g2 r2 => ?_
  obtain ⟨t, rfl⟩ := Rd.int_inv r2
  obtain ⟨a', vs', hf', hl, hr⟩ := S2.ownAt e
  rw [hf] at hf'; cases hf'
  have hlen : vs'.size = xs.length := hr.size
  have := short_le hsh
  refine wpAny_setItem_list (s := { s with heap := h2, toks := tk2 }) hl h0 (by omega) (by rw [hlen]; exact hk) fun h3 hl3 hs3 => ?_
  have k3 : Chg (· = a) h2 h3 := fun b o hb e => (hs3.2 b hb).trans e
  have hr3 : RdAll h2 P (xs.set k.toNat d) (vs'.setIfInBounds k.toNat val).toList := by
    rw [Array.toList_setIfInBounds]
    exact hr.set _ (r1.ext x2)
  have lo3 : Loose h2 P (· = a) := fun b o' q w => by
    obtain ⟨oa, hoa, hca, na, hda⟩ := hl
    subst q; rw [hoa] at w; cases w; exact ⟨(S2.own x xs _ e hf).1, .list hca hda⟩
  refine o h3 tk2 P f (S2.mutate e hf hl hl3 k3 hr3 fun q => by rw [c.pl, how] at q; cases q) (((Kp.ofExt x1).trans (.ofExt x2)).trans (.ofChg k3 lo3))

theorem st_append {x : Str} {p apos cp pos : Pos} {arg : Expr} {xs : List PyData} {d : PyData} (how : ow.lookup x = some true) (hx : (x == ("__classdict__" : Str)) = false) (hd : (x == ("__debug__" : Str)) = false)
    (hp : (apos.endLine == cp.line) = true) (e : ρ.lookup x = some (.own xs)) (hv : ArgsR w K l sc ρ [arg] [.d d]) (hsh : short xs.length = true) : St w K l sc ow ρ (.Expr (.Call (.Attribute (.Name x p) ("append" : Str) apos) [arg] [] cp) pos) (.nx (setR x (.own (xs ++ [d])) ρ)) := fun C A s P f Q E c ro S o => by
  have hint : interactive C.env = false := by unfold interactive; rw [S.frame.kind]; rfl
  refine wpAny_Expr (attr_call_open hv (fun _ => rfl) hp rfl ?_) hint rfl
  refine sr_own c S e hx hd fun a vs hf hl hr pl => ?_
  obtain ⟨us, n, hpl⟩ := S.plain x xs a (by rw [c.pl, how]; rfl) e hf
  refine Calls.getMethod_list_append hpl rfl rfl ?_
  refine callWith_gen (noStar hv) ?_
  refine args_sound hv ro c.env (c.k ▸ S.good) S.fresh S.envRel fun h1 tk1 vals x1 g1 r1 => ?_
  refine ⟨fun Q' hq => wpAny_pure (hq _), ?_⟩
  cases r1 with
  | cons r1 r2 =>
  cases r2
  have S1 := S.ext x1 (c.k ▸ g1)
  obtain ⟨us1, hpl1⟩ := S1.plain x xs a (by rw [c.pl, how]; rfl) e hf
  obtain ⟨a', vs', hf', hl1, hr1⟩ := S1.ownAt e
  rw [hf] at hf'; cases hf'
  have hus : us1 = vs' := by
    obtain ⟨n', q⟩ := hpl1
    obtain ⟨o', ho', _, n2, hd'⟩ := hl1
    rw [q] at ho'; cases ho'; cases hd'; rfl
  subst hus
  have hlen : us1.size = xs.length := hr1.size
  refine wpAny_list_append_plain (s := { s with heap := h1, toks := tk1 }) hpl1 (fun h2 hl2 hs2 => ?_) (by rw [hlen]; exact short_line hsh)
  have k2 : Chg (· = a) h1 h2 := fun b o hb e => (hs2.2 b hb).trans e
  have lo2 : Loose h1 P (· = a) := fun b o' q w => by
    obtain ⟨oa, hoa, hca, na, hda⟩ := hl1
    subst q; rw [hoa] at w; cases w; exact ⟨(S1.own x xs _ e hf).1, .list hca hda⟩
  refine o h2 tk1 P f (S1.mutate e hf hl1 hl2.isList k2 ?_ fun _ => ⟨_, hl2⟩) ((Kp.ofExt x1).trans (.ofChg k2 lo2))
  rw [Array.toList_push]
  exact hr1.append (RdAll.cons r1 RdAll.nil)

theorem delItem_gen {a : Addr} {items : Array Value} {i : Int} {u : Tok} {k : Nat} {R : Unit → Shared → Prop} (hl : s.heap.IsList a items) (hfit : Builtin.List.listFitsIndex i = true) (hk : seqIndex? i items.size = some k) (hsz : items.size ≤ sizeLine)
    (hQ : ∀ h', h'.IsList a (items.eraseIdxIfInBounds k) → Heap.SameBut a s.heap h' → R () { s with heap := h' }) : wpAny (model prog w) A (delItem (.ref a) (.int i u)) R E s := by
  obtain ⟨o, ho, hc, n, hd⟩ := id hl
  obtain ⟨n', hd'⟩ := Obj.data_mapSeq hd (·.eraseIdxIfInBounds k)
  refine wpAny_delItem_slot hl.typeIs (by decide) PySem.F.slot_list_delitem ?_
  refine wpAny_call_entry PySem.F.slot_list_delitem hl.typeIs PySem.F.entry_list_delitem ?_ (PySem.F.args_list_delitem_2 _ _)
  show wpAny _ _ (Builtin.List.listSubscript? (.int i u) >>= _) _ _ s
  refine wpAny_bind (wpAny_listSubscript_int hfit ?_)
  show wpAny _ _ (Builtin.List.listItems (.ref a) >>= _) _ _ s
  unfold Builtin.List.listItems
  refine wpAny_bind (wpAny_bind (wpAny_seqItems ho hd (wpAny_pure ?_)))
  rw [hk]
  show wpAny _ _ (updateSeq a (·.eraseIdxIfInBounds k) >>= fun _ => ret .none) _ _ s
  have hz' : (items.eraseIdxIfInBounds k).size ≤ sizeLine + 1 := Nat.le_trans (MeetsSeq.size_erased items _) (Nat.le_succ_of_le hsz)
  refine wpAny_bind (wpAny_updateSeq ho hd (wpAny_pure ⟨.none, rfl, hQ _ ?_ (Heap.SameBut.update ..)⟩) hsz hz')
  exact ⟨_, Heap.get?_update_self _ ho (Obj.isFreed_of_seq hd'), (Obj.cls_mapSeq ..).trans hc, n', hd'⟩

theorem st_del {x : Str} {p sp pos : Pos} {i : Expr} {xs : List PyData} {k : Int} {j : Nat} (how : ow.lookup x = some false) (hx : (x == ("__classdict__" : Str)) = false) (hd : (x == ("__debug__" : Str)) = false)
    (e : ρ.lookup x = some (.own xs)) (hi : Ev w K l sc ρ i (.d (.int k))) (hsh : short xs.length = true) (hsm : small k = true) (hj : seqIndex? k xs.length = some j) : St w K l sc ow ρ (.Delete [.Subscript (.Name x p) i sp] pos) (.nx (setR x (.own (xs.eraseIdx j)) ρ)) := fun C A s P f Q E c ro S o => by
  refine wpAny_Delete (wpAny_deleteEach_cons (wpAny_delete_Subscript ?_))
  refine sr_own c S e hx hd fun a vs hf _ _ => ?_
  refine sr_eval c hi ro S fun h2 tk2 iv S2 x2 g2 r2 => ?_
  obtain ⟨t, rfl⟩ := Rd.int_inv r2
  obtain ⟨a', vs', hf', hl, hr⟩ := S2.ownAt e
  rw [hf] at hf'; cases hf'
  have hlen : vs'.size = xs.length := hr.size
  have hs' := small_iff hsm
  refine delItem_gen (s := { s with heap := h2, toks := tk2 }) hl (by unfold Builtin.List.listFitsIndex; simp; omega) (by rw [hlen]; exact hj) (by rw [hlen]; exact short_line hsh) fun h3 hl3 hs3 => ?_
  refine wpAny_deleteEach_nil ?_
  have k3 : Chg (· = a) h2 h3 := fun b o hb e => (hs3.2 b hb).trans e
  have hr3 : RdAll h2 P (xs.eraseIdx j) (vs'.eraseIdxIfInBounds j).toList := by
    have : (vs'.eraseIdxIfInBounds j).toList = vs'.toList.eraseIdx j := by simp
    rw [this]
    exact hr.erase j
  have lo3 : Loose h2 P (· = a) := fun b o' q w => by
    obtain ⟨oa, hoa, hca, na, hda⟩ := hl
    subst q; rw [hoa] at w; cases w; exact ⟨(S2.own x xs _ e hf).1, .list hca hda⟩
  exact o h3 tk2 P f (S2.mutate e hf hl hl3 k3 hr3 fun q => by rw [c.pl, how] at q; cases q) ((Kp.ofExt x2).trans (.ofChg k3 lo3))
end
end Mine
namespace Mine
open PySem PySem.Spec PySem.Calls PySem.W PyProof.Rows
open PySem.Builtin PySem.Builtin.Str

section
variable (w : World) (K : Frag) (l : Nat) (sc : Sc) (ow : List (Str × Bool))
inductive ForR (target : Expr) (body : List Stmt) : List V → Rho → Fl → Prop
  | nil {ρ} : ForR target body [] ρ (.nx ρ)
  | next {v vs b ρ ρ' r} (hb : BindR target v b) (hn : ∀ p ∈ b, isOwnB sc p.1 = true) (h : Bk w K l sc ow (setAll b ρ) body (.nx ρ')) (q : ForR target body vs ρ' r) : ForR target body (v :: vs) ρ r
  | brk {v vs b ρ ρ'} (hb : BindR target v b) (hn : ∀ p ∈ b, isOwnB sc p.1 = true) (h : Bk w K l sc ow (setAll b ρ) body (.brk ρ')) : ForR target body (v :: vs) ρ (.nx ρ')
  | ret {v vs b ρ u} (hb : BindR target v b) (hn : ∀ p ∈ b, isOwnB sc p.1 = true) (h : Bk w K l sc ow (setAll b ρ) body (.ret u)) : ForR target body (v :: vs) ρ (.ret u)
inductive WhileR (test : Expr) (body : List Stmt) : Nat → Rho → Fl → Prop
  | done {n ρ} (h : Tv w K l sc ρ test false) : WhileR test body (n + 1) ρ (.nx ρ)
  | next {n ρ ρ' r} (h : Tv w K l sc ρ test true) (hb : Bk w K l sc ow ρ body (.nx ρ')) (q : WhileR test body n ρ' r) : WhileR test body (n + 1) ρ r
end

section
variable {w : World} {K : Frag} {l : Nat} {sc : Sc} {ow : List (Str × Bool)}
variable {C : Cx} {A : Around} {s : Shared} {P : Addr → Prop} {f : Str → Option Value} {Q : Flow → Shared → Prop} {E : Value → Shared → Prop} {ρ : Rho}

theorem CxOk.withIt (c : CxOk K sc ow C) (I : Addr) (o : Obj) : CxOk K sc ow (C.withIt I o) := ⟨c.k, c.hsc, c.pl, c.env⟩

theorem ForR.inv {target : Expr} {body : List Stmt} {v : V} {vs : List V} {r : Fl} (h : ForR w K l sc ow target body (v :: vs) ρ r) : ∃ b, BindR target v b ∧ (∀ p ∈ b, isOwnB sc p.1 = true) ∧
    ((∃ ρ', Bk w K l sc ow (setAll b ρ) body (.nx ρ') ∧ ForR w K l sc ow target body vs ρ' r) ∨ (∃ ρ', Bk w K l sc ow (setAll b ρ) body (.brk ρ') ∧ r = .nx ρ') ∨ ∃ u, Bk w K l sc ow (setAll b ρ) body (.ret u) ∧ r = .ret u) := by
  cases h with
  | next hb hn h q => exact ⟨_, hb, hn, .inl ⟨_, h, q⟩⟩
  | brk hb hn h => exact ⟨_, hb, hn, .inr (.inl ⟨_, h, rfl⟩)⟩
  | ret hb hn h => exact ⟨_, hb, hn, .inr (.inr ⟨_, h, rfl⟩)⟩

/-- the post of a loop -/
abbrev LoopPost (M : Model) (A : Around) (env : Env) (Q : Flow → Shared → Prop) (E : Value → Shared → Prop) : Result → Shared → Prop :=
  fun r s' => match r with | .ok f => Q f s' | .error e => cameBackBy M A env E e s'

theorem for_loop (c : CxOk K sc ow C) (ro : Room l A) {target : Expr} {body : List Stmt} {items : List V} {It : ItD} {I : Addr} {r : Fl} (hno : ∀ v ∈ items, notOwn v = true) (hoI : ownIt It = false) {Es : Value → Shared → Prop}
    (hr : ForR w K l sc ow target body items ρ r) (S : SR C ρ s.heap P f) (i : ItOut C P I) (t : ItSt items I P It 0 s.heap) (hz : ∀ b, C.Z b → ∃ o, C.Pr b o)
    (o : FlOk C P s Q r) : codeAny (model prog w) A (.forLoop target (.ref I) body [] C.env) (LoopPost (model prog w) A C.env Q E) s := by
  refine codeAny_forLoop_any (fun n s' => ∃ (j : Nat) (ρ' : Rho) (P' : Addr → Prop) (f' : Str → Option Value) (h' : Heap) (tk : Nat), s' = { s with heap := h', toks := tk } ∧ j ≤ items.length ∧ n = items.length - j ∧ ForR w K l sc ow target body (items.drop j) ρ' r ∧ SR C ρ' h' P' f' ∧ ItOut C P' I ∧ ItSt items I P' It j h' ∧ Kp P s.heap P' h') ?_ items.length ⟨0, ρ, P, f, s.heap, s.toks, rfl, Nat.zero_le _, rfl, hr, S, i, t, Kp.refl⟩
  rintro n s' ⟨j, ρ', P', f', h', tk, rfl, hj, rfl, hr', S', i', t', k'⟩
  obtain ⟨oI, hoI', hmI, hnI⟩ := t'.at_
  rcases Nat.lt_or_ge j items.length with hlt | hge
  · have hd : items.drop j = items[j] :: items.drop (j + 1) := List.drop_eq_getElem_cons hlt
    rw [hd] at hr'
    obtain ⟨b, hb, hn, hr'⟩ := hr'.inv
    refine it_next (s := { s with heap := h', toks := tk }) (List.getElem?_eq_getElem hlt) i'.p t' fun val h1 tk1 t1 k1 r1 => ?_
    obtain ⟨o1, ho1, hm1, hn1⟩ := t1.at_
    have S1 := S'.iterOn i' hoI' hmI hnI k1 (by rw [ho1]; exact fun e => nomatch e)
    have lo1 : Loose h' P' (· = I) := fun b o' e q => by subst e; rw [hoI'] at q; cases q; exact ⟨i'.p, hmI⟩
    dsimp only
    refine ownedGo (s := { s with heap := h1, toks := tk1 }) t1 ?_
    refine sr_bind c (s := { s with heap := h1, toks := tk1 }) hb hn (hno _ (List.getElem_mem hlt)) ro S1 r1 fun h2 tk2 f2 S2 k2 => ?_
    have t2 := t1.chg k2 S1.loose i'.m (fun e => by rw [hoI] at e; cases e)
    obtain ⟨o2, ho2, hm2, hn2⟩ := t2.at_
    have hc2 : o2.cls ≠ .none := by
      cases It with
      | lst ax vals own => obtain ⟨⟨o, ho, hc, hd⟩, _⟩ := t2; rw [ho] at ho2; cases ho2; rw [hc]; exact fun e => nomatch e
      | tup ax vals => obtain ⟨⟨o, ho, hc, hd⟩, _⟩ := t2; rw [ho] at ho2; cases ho2; rw [hc]; exact fun e => nomatch e
      | str ty x t' => obtain ⟨_, ⟨o, ho, hc, hd⟩, _⟩ := t2; rw [ho] at ho2; cases ho2; rw [hc]; exact fun e => nomatch e
      | rng a b => obtain ⟨ho, _⟩ := t2; rw [ho] at ho2; cases ho2; exact fun e => nomatch e
    have S2p := S2.protect i' ho2 hn2
    have kk : Kp P s.heap P' h2 := (k'.trans (.ofChg k1 lo1)).trans (.ofChg k2 S1.loose)
    rcases hr' with ⟨ρ'', hbody, hr'⟩ | ⟨ρ'', hbody, rfl⟩ | ⟨u, hbody, rfl⟩
    · refine hbody (C.withIt I o2) A { s with heap := h2, toks := tk2 } P' f2 _ _ (c.withIt I o2) ro S2p ?_
      intro h3 tk3 P3 f3 S3 k3
      obtain ⟨S3', hI3, pI3⟩ := S3.unprotect hc2 hz
      refine ⟨items.length - (j + 1), Nat.sub_lt_sub_left hlt (Nat.lt_succ_self j), j + 1, ρ'', P3, f3, h3, tk3, rfl, hlt, rfl, hr', S3', ⟨pI3, i'.k, i'.pr, i'.m, i'.pc⟩, t2.kp k3 hoI (fun o q => by rw [ho2] at q; cases q; exact hI3), kk.trans k3⟩
    · refine hbody (C.withIt I o2) A { s with heap := h2, toks := tk2 } P' f2 _ _ (c.withIt I o2) ro S2p ?_
      intro h3 tk3 P3 f3 S3 k3
      obtain ⟨S3', hI3, pI3⟩ := S3.unprotect hc2 hz
      exact o h3 tk3 P3 f3 S3' (kk.trans k3)
    · refine hbody (C.withIt I o2) A { s with heap := h2, toks := tk2 } P' f2 _ _ (c.withIt I o2) ro S2p ?_
      intro h3 tk3 val hh hg hv
      exact o h3 tk3 val (fun b p e => hh b p (.inl e)) hg hv
  · have hd : items.drop j = [] := List.drop_of_length_le hge
    rw [hd] at hr'
    cases hr'
    refine it_done (s := { s with heap := h', toks := tk }) ro.handled (Nat.le_antisymm hge hj) t' fun h1 tk1 k1 => ?_
    dsimp only
    refine wpAny_execs_nil ?_
    obtain ⟨S1, lo1⟩ := S'.iter i' hoI' hmI hnI k1
    exact o h1 tk1 _ f' S1 ((k'.trans (.ofChg k1 lo1)).trans (.into fun a p _ => .inl p))

theorem items_no {v : V} {items : List V} (hi : ItemsR v items) : ∀ u ∈ items, notOwn u = true := by
  intro u m
  cases hi <;> (obtain ⟨x, _, rfl⟩ := List.mem_map.mp m; rfl)
theorem st_for {ρ' : Rho} {target iter : Expr} {body : List Stmt} {pos : Pos} {v : V} {items : List V} {r : Fl} (hs : PlainIter iter) (he : ρ' = ρ ∨ ρ' = frz ρ) (hv : Ev w K l sc ρ' iter v) (ho : notOwn v = true) (hi : ItemsR v items) (hr : ForR w K l sc ow target body items ρ' r) :
    St w K l sc ow ρ (.For target iter body [] pos) r := fun C A s P f Q E c ro S o => by
  have start : ∃ P1, Kp P s.heap P1 s.heap ∧ SR C ρ' s.heap P1 f := by
    rcases he with rfl | rfl
    · exact ⟨P, Kp.refl, S⟩
    · exact S.freezeAll
  obtain ⟨P1, k1, S1⟩ := start
  refine wpAny_For (sr_eval c hv ro S1 fun h2 tk2 val S2 x2 g2 r2 => ?_) (hs _)
  have r2a : RV h2 (fun a => P1 a ∧ h2.get? a ≠ none) v val := RV.strong (fun a p q => ⟨p, q⟩) r2
  refine it_make (K := K) (s := { s with heap := h2, toks := tk2 }) hi g2 r2a fun It oI tI hoI => ?_
  have hoI' : ownIt It = false := by
    cases q : ownIt It with
    | false => rfl
    | true => rw [ho] at hoI; exact absurd (hoI q) (by decide)
  have x3 : Ext h2 (h2.push oI) := ext_push _ _
  obtain ⟨oJ, goJ, _⟩ := tI.at_
  obtain ⟨S3, i3, k3⟩ := sr_reserve S2 x3 (S2.good.push _) (I := h2.objs.size) (fresh_none _) (by rw [goJ]; exact fun e => nomatch e)
  have t3 : ItSt items h2.objs.size (fun a => P1 a ∧ a ≠ h2.objs.size) It 0 (h2.push oI) := ItSt.mono (fun a p => ⟨p.1, fun e => p.2 (by rw [e]; exact fresh_none _)⟩) tI
  exact for_loop c ro (s := { s with heap := h2.push oI, toks := tk2 }) (Es := E) (items_no hi) hoI' hr S3 i3 t3 (fun b q => (S.z b q).2) (o.after ((k1.trans (.ofExt x2)).trans k3))

theorem st_while {test : Expr} {body : List Stmt} {pos : Pos} {wf : Nat} {r : Fl} (hr : WhileR w K l sc ow test body wf ρ r) : St w K l sc ow ρ (.While test body [] pos) r := fun C A s P f Q E c ro S o => by
  refine wpAny_While ?_
  refine codeAny_whileLoop (fun n s' => ∃ (ρ' : Rho) (P' : Addr → Prop) (f' : Str → Option Value) (h' : Heap) (tk : Nat), s' = { s with heap := h', toks := tk } ∧ WhileR w K l sc ow test body n ρ' r ∧ SR C ρ' h' P' f' ∧ Kp P s.heap P' h') ?_ wf ⟨ρ, P, f, s.heap, s.toks, rfl, hr, S, Kp.refl⟩
  rintro n s' ⟨ρ', P', f', h', tk, rfl, hr', S', k'⟩
  cases hr' with
  | done hb =>
    refine sr_test c (s := { s with heap := h', toks := tk }) hb ro S' fun h1 tk1 S1 x1 => ?_
    rw [if_neg Bool.false_ne_true]
    exact wpAny_execs_nil (o h1 tk1 P' f' S1 (k'.trans (.ofExt x1)))
  | @next n _ ρ'' _ hb hbody hr' =>
    refine sr_test c (s := { s with heap := h', toks := tk }) hb ro S' fun h1 tk1 S1 x1 => ?_
    rw [if_pos rfl]
    refine hbody C A { s with heap := h1, toks := tk1 } P' f' _ _ c ro S1 fun h2 tk2 P2 f2 S2 k2 => ?_
    exact ⟨n, Nat.lt_succ_self _, ρ'', P2, f2, h2, tk2, rfl, hr', S2, (k'.trans (Kp.ofExt x1)).trans k2⟩

theorem st_return {e : Expr} {pos : Pos} {v : V} (hv : Ev w K l sc (frz ρ) e v) : St w K l sc ow ρ (.Return (some e) pos) (.ret v) := fun C A s P f Q E c ro S o => by
  obtain ⟨P1, k1, S1⟩ := S.freezeAll
  refine wpAny_Return_some (sr_eval c hv ro S1 fun h1 tk1 val S2 x1 g1 r1 => ?_)
  exact o h1 tk1 val S2.holds S2.good (r1.mono S2.sub)
theorem st_if {test : Expr} {body orelse : List Stmt} {pos : Pos} {b : Bool} {r : Fl} (ht : Tv w K l sc ρ test b) (h : Bk w K l sc ow ρ (cond b body orelse) r) : St w K l sc ow ρ (.If test body orelse pos) r := fun C A s P f Q E c ro S o => by
  refine wpAny_If (sr_test c ht ro S fun h1 tk1 S1 x1 => ?_)
  cases b <;> exact h C A { s with heap := h1, toks := tk1 } P f _ _ c ro S1 (o.after (.ofExt x1))
theorem st_break {pos : Pos} : St w K l sc ow ρ (.Break pos) (.brk ρ) := fun C A s P f Q E c ro S o => wpAny_Break (o s.heap s.toks P f S Kp.refl)
theorem st_assert {test : Expr} {pos : Pos} (ht : Tv w K l sc ρ test true) : St w K l sc ow ρ (.Assert test none pos) (.nx ρ) := fun C A s P f Q E c ro S o =>
  wpAny_Assert_holds (sr_test c ht ro S fun h1 tk1 S1 x1 => ⟨rfl, o h1 tk1 P f S1 (.ofExt x1)⟩)
theorem bk_nil : Bk w K l sc ow ρ [] (.nx ρ) := fun C A s P f Q E c ro S o => wpAny_execs_nil (o s.heap s.toks P f S Kp.refl)
theorem bk_cons {ρ' : Rho} {st : Stmt} {rest : List Stmt} {r : Fl} (h : St w K l sc ow ρ st (.nx ρ')) (q : Bk w K l sc ow ρ' rest r) : Bk w K l sc ow ρ (st :: rest) r := fun C A s P f Q E c ro S o =>
  wpAny_execs_cons (h C A s P f _ E c ro S fun h2 tk2 P2 f2 S2 k2 => q C A { s with heap := h2, toks := tk2 } P2 f2 Q E c ro S2 (o.after k2))
theorem bk_ret {v : V} {st : Stmt} {rest : List Stmt} (h : St w K l sc ow ρ st (.ret v)) : Bk w K l sc ow ρ (st :: rest) (.ret v) := fun C A s P f Q E c ro S o =>
  wpAny_execs_cons (h C A s P f _ E c ro S fun h2 tk2 val a b c => o h2 tk2 val a b c)
theorem bk_brk {ρ' : Rho} {st : Stmt} {rest : List Stmt} (h : St w K l sc ow ρ st (.brk ρ')) : Bk w K l sc ow ρ (st :: rest) (.brk ρ') := fun C A s P f Q E c ro S o =>
  wpAny_execs_cons (h C A s P f _ E c ro S fun h2 tk2 P2 f2 S2 k2 => o h2 tk2 P2 f2 S2 k2)
end
end Mine
namespace Mine
open PySem PySem.Spec PySem.Calls PySem.W PyProof.Rows
open PySem.Builtin PySem.Builtin.Str

theorem Room.deeper {l : Nat} {A : Around} (ro : Room (l + 1) A) (env : Env) : Room l (A.deeper env) :=
  ⟨ro.handled, by have := ro.depth; show A.depth + 1 + l < 900; omega, by have := ro.units; show A.units + 3 + 20 * l + 300 < cLine; omega⟩
theorem Room.le {l l' : Nat} {A : Around} (ro : Room l' A) (h : l ≤ l') : Room l A := ⟨ro.handled, by have := ro.depth; omega, by have := ro.units; omega⟩
theorem Room.in1 {l : Nat} {A : Around} (ro : Room (l + 1) A) : Room l A.in1 :=
  ⟨ro.handled, by have := ro.depth; show A.depth + l < 900; omega, by have := ro.units; show A.units + 1 + 20 * l + 300 < cLine; omega⟩

section
variable {w : World} {K : Frag}
theorem CallOk.le {l l' : Nat} {f : V} {vs : List V} {r : V} (h : l ≤ l') (c : CallOk w K l f vs r) : CallOk w K l' f vs r :=
  ⟨c.keeper, fun A s P Q E fv vals ro => c.call A s P Q E fv vals (ro.le h)⟩
theorem MethOk.le {l l' : Nat} {o : V} {name : Str} {vs : List V} {r : V} (h : l ≤ l') (c : MethOk w K l o name vs r) : MethOk w K l' o name vs r :=
  let ⟨f, a, b⟩ := c; ⟨f, a.le h, b⟩
end

/-! ## a def that the top holds -/
structure FnAt (K : Frag) (a : Addr) (fd : FuncData) (body : List Stmt) : Prop where
  obj : ∃ o, K.lookup a = some o ∧ o.data = .func fd
  co : fd.scope.isCoroutine = false
  gen : fd.scope.isGenerator = false
  kind : fd.scope.kind = .function
  body : fd.body = .stmts body
  globals : fd.globals = GLB
  builtins : fd.builtins = builtinsNs
  code : ∃ c oc vs t, fd.code = .ref c ∧ K.lookup c = some oc ∧ oc.data = .fields vs ∧ vs[1]? = some (.str fd.qualname t)
  free : ∀ x, fd.scope.names.lookup x ≠ some .free
  limit : ∀ h, Good K h → h.NoLimit

noncomputable def BindOk (K : Frag) (fd : FuncData) (vs : List V) (ρ : Rho) : Prop := ∀ (M : Model) (A : Around) (s : Shared) (P : Addr → Prop) (Q : List (Str × Value) → Shared → Prop) (E : Value → Shared → Prop) vals,
  Good K s.heap → FreshOk P s.heap → All2 (RV s.heap P) vs vals →
  (∀ h' tk us, Ext s.heap h' → Good K h' → All2 (RV h' P) (ρ.map (·.2)) us → Q ((ρ.map (·.1)).zip us) { s with heap := h', toks := tk }) → wpAny M A (bindArgs fd ⟨vals, []⟩) Q E s

noncomputable def nodupS : List Str → Bool
  | [] => true
  | x :: r => !r.contains x && nodupS r
abbrev putAll (ps : List Str) (us : List Value) (g : Str → Option Value) : Str → Option Value := (ps.zip us).foldl (fun f p => fun y => if y = p.1 then some p.2 else f y) g
theorem fold_else {x : Str} {ps : List Str} {us : List Value} {g : Str → Option Value} (h : x ∉ ps) : putAll ps us g x = g x := by
  induction ps generalizing us g with
  | nil => rfl
  | cons p ps ih =>
    cases us with
    | nil => rfl
    | cons u us =>
      unfold putAll
      rw [List.zip_cons_cons, List.foldl_cons]
      exact (ih fun m => h (List.mem_cons_of_mem _ m)).trans (if_neg fun e => h (by rw [e]; exact List.mem_cons_self ..))
theorem fold_here {R : V → Value → Prop} {ρ : Rho} {us : List Value} {g : Str → Option Value} (hn : nodupS (ρ.map (·.1)) = true) (a : All2 R (ρ.map (·.2)) us) (x : Str) (v : V) (e : ρ.lookup x = some v) :
    ∃ u, putAll (ρ.map (·.1)) us g x = some u ∧ R v u := by
  induction ρ generalizing us g with
  | nil => cases e
  | cons p ρ ih =>
    obtain ⟨y, w⟩ := p
    rw [List.map_cons] at a hn
    cases a with
    | @cons _ u _ us r q =>
    unfold nodupS at hn
    rw [Bool.and_eq_true] at hn
    unfold putAll
    rw [List.map_cons, List.zip_cons_cons, List.foldl_cons]
    cases hxy : x == y with
    | true =>
      rw [List.lookup_cons, hxy] at e
      cases e
      have := eq_of_beq hxy
      subst this
      exact ⟨u, (fold_else (us := us) (by simpa using hn.1)).trans (if_pos rfl), r⟩
    | false =>
      rw [List.lookup_cons, hxy] at e
      exact ih hn.2 q e

section
variable {w : World} {K : Frag} {l : Nat}

/-- a def is entered -/
theorem enter_fn {a : Addr} {fd : FuncData} {body : List Stmt} (F : FnAt K a fd body) {ow : List (Str × Bool)} {vs : List V} {vals : List Value} {ρ : Rho} (hb : BindOk K fd vs ρ) (hnd : nodupS (ρ.map (·.1)) = true)
    (hown : ρ.all (fun p => isOwnB fd.scope.names p.1 && notOwn p.2) = true) {A : Around} {s : Shared} {P PC X : Addr → Prop} {R : Result → Shared → Prop} (ro : Room (l + 1) A) (g : Good K s.heap) (fr : FreshOk P s.heap) (hPC : ∀ b, P b → PC b)
    (ra : All2 (RV s.heap P) vs vals)
    (h : ∀ (C : Cx) h2 tk2 f E', CxOk K fd.scope.names ow C → Room l (A.deeper C.env) → C.Pr = (fun b o => s.heap.get? b = some o ∧ ¬ X b) → C.Z = (fun _ => False) → C.PC = PC → C.env.code = fd.code ∧ C.env.qual = fd.qualname ++ ".<locals>." → SR C ρ h2 (fun b => P b ∧ ¬ C.M b) f → Ext s.heap h2 → (∀ b, C.M b → s.heap.get? b = none) →
      wpAny (model prog w) (A.deeper C.env) (execs body C.env) (fun f s' => R (.ok (.ret (match f with | .ret v => v | _ => .none))) s') E' { s with heap := h2, toks := tk2 }) :
    codeAny (model prog w) A (.call (.ref a) ⟨vals, []⟩) R s := by
  obtain ⟨o, ho, hd⟩ := F.obj
  obtain ⟨c, oc, cvs, ct, hc1, hc2, hc3, hc4⟩ := F.code
  refine codeAny_call_function (by have := ro.depth; show A.depth < 1000; omega) (g.inn _ _ ho) hd F.co F.gen F.body ⟨c, oc, cvs, ct, hc1, g.inn _ _ hc2, hc3, hc4⟩ ?_
  refine hb _ _ s P _ _ vals g fr ra fun h1 tk1 us x1 g1 a1 => ?_
  have hN : ∀ p ∈ (ρ.map (·.1)).zip us, OwnName fd.scope p.1 := by
    intro p m
    have := List.of_mem_zip (show (p.1, p.2) ∈ _ from m)
    obtain ⟨q, hq, hq'⟩ := List.mem_map.mp this.1
    have h2 := List.all_eq_true.mp hown q hq
    rw [Bool.and_eq_true] at h2
    rw [← hq']; exact isOwnB_iff h2.1
  refine newEnv_sound (s := { s with heap := h1, toks := tk1 }) F.kind hN fun cells h2 tk2 NF => ?_
  refine ⟨F.limit h2 (g1.keep NF.old), codeAny_func ?_⟩
  generalize hE : newEnv fd.scope h1.objs.size fd.globals cells (fd.qualname ++ ".<locals>.") (some a) fd.code none fd.builtins = env at NF ⊢
  have e1 : env.scope = fd.scope := by rw [← hE]; rfl
  have e2 : env.globals = fd.globals := by rw [← hE]; rfl
  have e3 : env.builtins = fd.builtins := by rw [← hE]; rfl
  have ek : ∀ x, env.kindOf x = fd.scope.names.lookup x := fun x => by unfold Env.kindOf; rw [e1]
  let C : Cx := { K := K, env := env, sc := fd.scope.names, Pr := fun b o => s.heap.get? b = some o ∧ ¬ X b, Z := fun _ => False, PC := PC, pl := fun x => ow.lookup x == some true }
  have c : CxOk K fd.scope.names ow C := by
    refine ⟨rfl, rfl, fun _ => rfl, ⟨by show env.scope.kind = _; rw [e1]; exact F.kind, e2.trans F.globals, e3.trans F.builtins, fun x hx => (ek x).trans hx, fun x hx => ?_⟩⟩
    rcases hx with hx | hx
    · obtain ⟨c, o, h1', _⟩ := NF.frame.cell x (.inr hx) ((ek x).trans hx)
      exact ⟨.inl ((ek x).trans hx), c, h1'⟩
    · exact absurd hx (F.free x)
  have noOwn : ∀ x xs, ρ.lookup x = some (.own xs) → False := fun x xs e => by
    have h2 := List.all_eq_true.mp hown _ (lookup_mem e)
    rw [Bool.and_eq_true] at h2; cases h2.2
  have xx : Ext h1 h2 := .of_keep NF.old
  have x2 : Ext s.heap h2 := x1.trans xx
  have S : SR C ρ h2 (fun b => P b ∧ ¬ C.M b) (putAll (ρ.map (·.1)) us fun _ => none) := by
    refine ⟨NF.frame, fun x v e => ?_, fun x xs b e _ => ?_, fun x y xs ys b e _ _ _ => ?_, fun x xs b _ e _ => ?_, fun b m => ⟨fun p => p.2 m, lookup_none_of_fresh g1.inn (NF.fresh b m), fun o p => ?_⟩, fun b e => ⟨(fr.ext (x1.trans xx)) b e, fun m => ?_⟩, g1.keep NF.old, fun b p => hPC b p.1, fun b p => p.elim, fun b o p => x2 b o p.1⟩
    · obtain ⟨u, hu, ru⟩ := fold_here (g := fun _ => none) hnd a1 x v e
      have h2 := List.all_eq_true.mp hown _ (lookup_mem e)
      rw [Bool.and_eq_true] at h2
      refine ⟨isOwnB_iff h2.1, u, hu, (RV.strong (fun b p q => ⟨p, fun m => q (NF.fresh b m)⟩) ru).ext xx⟩
    · exact absurd (noOwn x xs e) id
    · exact absurd (noOwn x xs e) id
    · exact absurd (noOwn x xs e) id
    · have z : h1.get? b = none := NF.fresh b m
      have z' := x1.none z
      rw [p.1] at z'; cases z'
    · obtain ⟨o', ho', _⟩ := NF.frame.mu m
      rw [e] at ho'; cases ho'
  exact h C h2 tk2 _ _ c (ro.deeper env) rfl rfl rfl ⟨by show env.code = _; rw [← hE]; rfl, by show env.qual = _; rw [← hE]; rfl⟩ S x2 fun b m => x1.none (NF.fresh b m)

theorem fn_call {a : Addr} {fd : FuncData} {body : List Stmt} (F : FnAt K a fd body) {ow : List (Str × Bool)} {vs : List V} {ρ : Rho} {r : V}
    (hb : BindOk K fd vs ρ) (hnd : nodupS (ρ.map (·.1)) = true) (hown : ρ.all (fun p => isOwnB fd.scope.names p.1 && notOwn p.2) = true) (hr : Bk w K l fd.scope.names ow ρ body (.ret r)) : CallOk w K (l + 1) (.fn (.ref a)) vs r := by
  obtain ⟨o, ho, hd⟩ := F.obj
  refine ⟨fun A s P Q E fv g rf hq => ?_, fun A s P Q E fv vals ro g fr rf ra out => ?_⟩
  · rw [show fv = .ref a from rf]
    unfold keeperOf
    refine wpAny_bind (wpAny_load (g.inn _ _ ho) ?_)
    rw [hd]; exact wpAny_pure (hq _)
  · rw [show fv = .ref a from rf]
    refine wpAny_call (enter_fn (ow := ow) F hb hnd hown (PC := P) (X := fun _ => False) ro g fr (fun b p => p) ra fun C h2 tk2 f E' c ro' hPr hZ hPC _ S x2 _ => ?_)
    refine hr C (A.deeper C.env) { s with heap := h2, toks := tk2 } _ _ _ _ c ro' S fun h3 tk3 val hh hg hv => ?_
    rw [hPr] at hh
    exact out h3 tk3 val (fun b o e => hh b o ⟨e, id⟩) (c.k ▸ hg) (hPC ▸ hv)
end
end Mine
namespace Mine
open PySem PySem.Spec PySem.Calls PySem.W PyProof.Rows
open PySem.Builtin PySem.Builtin.Str

/-! ## the builtins that the text calls -/
inductive LenR : V → Nat → Prop
  | str (x : Str) : LenR (.d (.str x)) x.length
  | list {v xs} (h : ListR v xs) : LenR v xs.length
  | tuple (xs) : LenR (.d (.tuple xs)) xs.length
  | wsl (rs) : LenR (.wsl rs) rs.length
noncomputable def bestV (val : Nat → Int) : Nat → Int
  | 0 => val 0
  | k + 1 => if val (k + 1) > bestV val k then val (k + 1) else bestV val k
noncomputable def maxV (ns : List Int) : Int := bestV (fun i => ns.getD i 0) (ns.length - 1)
section
variable {w : World} {K : Frag} {l : Nat} {A : Around} {E : Value → Shared → Prop} {s : Shared} {P : Addr → Prop}

theorem call_len_tuple {t : Addr} {items : Array Value} {Q : Value → Shared → Prop} (hl : s.heap.IsTuple t items) (hfit : (items.size : Int) < 2 ^ 63)
    (h : Q (.int items.size (s.toks + 1)) { s with toks := s.toks + 1 + 1 }) : wpAny (model prog w) A (call (.builtin "len") [.ref t]) Q E s := by
  obtain ⟨o, ho, hc, n, hd⟩ := id hl
  refine call_function_entry kind_len plain_len entry_len (args_len1 _) ?_
  unfold Builtin.«len»
  refine wpAny_bind (m := oneArg "len" _) (wpAny_pure ?_)
  refine wpAny_bind (m := callSpecial? (.ref t) (Str.ofString "__len__")) (wpAny_callSpecial?_slot (name := Str.ofString "__len__") hl.typeIs PySem.F.slot_tuple_len
    (wpAny_call_entry PySem.F.slot_tuple_len hl.typeIs PySem.F.entry_tuple_len ?_ (PySem.F.args_tuple_len_1 _)))
  · show wpAny _ _ (do retInt (← Builtin.Tuple.tupleItemsOf (.ref t)).size) _ _ s
    unfold Builtin.Tuple.tupleItemsOf
    refine wpAny_bind (wpAny_bind (wpAny_seqItems ho hd (wpAny_pure ?_)))
    refine wpAny_bind (wpAny_mkInt (wpAny_pure ⟨_, rfl, ?_⟩))
    refine wpAny_bind (wpAny_holding (wpAny_pure ?_))
    refine wpAny_bind (wpAny_letGo ?_)
    show wpAny _ _ (if ((items.size : Nat) : Int) < 0 then _ else _) _ _ _
    rw [if_neg (by omega)]
    show wpAny _ _ (if ((items.size : Nat) : Int) ≥ 2 ^ 63 then _ else _) _ _ _
    rw [if_neg (by omega)]
    exact wpAny_bind (wpAny_mkInt (wpAny_pure ⟨_, rfl, h⟩))

theorem callOk_of {f : Value} {vs : List V} {r : V} {k : Keeper} (hk : keeperOf f = pure k) (h : ∀ (A : Around) (s : Shared) (P : Addr → Prop) (Q : Value → Shared → Prop) (E : Value → Shared → Prop) vals, Room 0 A → Good K s.heap → FreshOk P s.heap → All2 (RV s.heap P) vs vals →
    Out K P r s Q → wpAny (model prog w) A (PySem.call f vals) Q E s) (l : Nat) : CallOk w K l (.fn f) vs r :=
  ⟨fun A s P Q E fv g rf hq => by rw [show fv = f from rf, hk]; exact wpAny_pure (hq _), fun A s P Q E fv vals ro g fr rf ra out => by rw [show fv = f from rf]; exact h A s P Q E vals (ro.le (Nat.zero_le _)) g fr ra out⟩
theorem len_call {v : V} {n : Nat} (e : LenR v n) (hs : short n = true) : CallOk w K l (.fn (.builtin "len")) [v] (.d (.int n)) := callOk_of rfl (fun A s P Q E vals ro g fr ra o => by
  have hn := short_le hs
  cases ra with
  | cons r r2 =>
  cases r2
  cases e with
  | str x =>
    obtain ⟨t, rfl⟩ := Rd.str_inv r
    exact PySem.P.len_str (by omega) (o.here g (Rd.int _ _))
  | list h =>
    obtain ⟨a, vs, rfl, hl, hr⟩ := list_inv h r
    have e1 := hr.size
    exact Calls.call_len_list hl (by omega) (by rw [e1]; exact o.here g (Rd.int _ _))
  | tuple xs =>
    obtain ⟨a, vs, rfl, hl, hr⟩ := Rd.tuple_inv r
    have e1 := hr.size
    exact call_len_tuple hl (by omega) (by rw [e1]; exact o.here g (Rd.int _ _))
  | wsl rs =>
    obtain ⟨a, vs, rfl, _, hl, hr⟩ := r
    have e1 : vs.size = rs.length := hr.length
    exact Calls.call_len_list hl (by omega) (by rw [e1]; exact o.here g (Rd.int _ _))) l
theorem ints_read {h : Heap} {ns : List Int} {vs : List Value} (r : RdAll h P (ns.map .int) vs) : ∃ ps : List (Int × Tok), vs = ps.map (fun p => .int p.1 p.2) ∧ ps.map (·.1) = ns := by
  induction ns generalizing vs with
  | nil => rw [r.nil_inv]; exact ⟨[], rfl, rfl⟩
  | cons n ns ih =>
    obtain ⟨v, vs', rfl, r1, r2⟩ := r.cons_inv
    obtain ⟨ps, rfl, rfl⟩ := ih r2
    obtain ⟨t, rfl⟩ := Rd.int_inv r1
    exact ⟨(_, t) :: ps, rfl, rfl⟩
theorem best_eq {val : Nat → Int} (k : Nat) : val (argBest (fun i j => decide (val i > val j)) k) = bestV val k := by
  induction k with
  | zero => rfl
  | succ k ih =>
    unfold argBest bestV
    simp only [decide_eq_true_eq]
    rw [ih]
    split
    · rfl
    · exact ih
theorem max_call {a b : Int} : CallOk w K l (.fn (.builtin "max")) [.d (.int a), .d (.int b)] (.d (.int (max a b))) := callOk_of rfl (fun A s P Q E vals ro g fr ra out => by
  cases ra with
  | cons r1 r2 =>
  cases r2 with
  | cons r2 r3 =>
  cases r3
  obtain ⟨t, rfl⟩ := Rd.int_inv r1
  obtain ⟨u, rfl⟩ := Rd.int_inv r2
  refine max_two_ints ro.handled fun h' tk k => out h' tk _ (.of_keep k) (g.keep k) ?_
  split
  · rw [Int.max_eq_right (Int.le_of_lt ‹_›)]; exact Rd.int _ _
  · rw [Int.max_eq_left (Int.not_lt.mp ‹_›)]; exact Rd.int _ _) l
theorem maxL_call {ns : List Int} (hne : ns ≠ []) : CallOk w K l (.fn (.builtin "max")) [.d (.list (ns.map .int))] (.d (.int (maxV ns))) := callOk_of rfl (fun A s P Q E vals ro g fr ra out => by
  cases ra with
  | cons r1 r2 =>
  cases r2
  obtain ⟨a, us, rfl, _, hl, hr⟩ := Rd.list_inv r1
  obtain ⟨ps, h1, h2⟩ := ints_read hr
  have h3 : us = intItems ps.toArray := by
    apply Array.ext'
    rw [h1]; simp [intItems]
  rw [h3] at hl
  have hlen : ps.length = ns.length := by rw [← h2, List.length_map]
  refine max_intList ro.handled hl (by rw [List.size_toArray, hlen]; exact List.length_pos_iff.mpr hne) fun v h' tk hv k => ?_
  refine out h' tk _ (.of_keep k) (g.keep k) ?_
  obtain ⟨t, rfl⟩ := intItems_at hv
  have hnum : numAt ps.toArray = fun i => ns.getD i 0 := by
    funext i
    unfold numAt
    rw [← h2]
    simp
  have : numAt ps.toArray (argBest (fun i j => decide (numAt ps.toArray i > numAt ps.toArray j)) (ps.toArray.size - 1)) = maxV ns := by
    rw [best_eq (val := numAt ps.toArray), hnum, List.size_toArray, hlen]
    rfl
  rw [this]
  exact Rd.int _ _) l
theorem range1_call {n : Int} : CallOk w K l (.fn (.type "range")) [.d (.int n)] (.rng 0 n) := callOk_of rfl (fun A s P Q E vals ro g fr ra out => by
  cases ra with
  | cons r1 r2 =>
  cases r2
  obtain ⟨t, rfl⟩ := Rd.int_inv r1
  exact call_range_1 (out _ _ _ (ext_push _ _) (g.push _) ⟨_, _, _, _, rfl, IsRange.new ..⟩)) l
theorem range2_call {a b : Int} : CallOk w K l (.fn (.type "range")) [.d (.int a), .d (.int b)] (.rng a b) := callOk_of rfl (fun A s P Q E vals ro g fr ra out => by
  cases ra with
  | cons r1 r2 =>
  cases r2 with
  | cons r2 r3 =>
  cases r3
  obtain ⟨t, rfl⟩ := Rd.int_inv r1
  obtain ⟨u, rfl⟩ := Rd.int_inv r2
  exact call_range_2 (out _ _ _ (ext_push _ _) (g.push _) ⟨_, _, _, _, rfl, IsRange.new ..⟩)) l
theorem rd_each {h' : Heap} {xs : List PyData} {vs : List Value} (e : vs.length = xs.length) (hh : ∀ (j : Nat) v d, vs[j]? = some v → xs[j]? = some d → Rd h' P d v) : RdAll h' P xs vs := by
  induction xs generalizing vs with
  | nil => rw [List.length_eq_zero_iff.mp e]; exact RdAll.nil
  | cons x xs ih =>
    cases vs with
    | nil => cases e
    | cons v vs => exact RdAll.cons (hh 0 v x rfl rfl) (ih (Nat.succ.inj e) fun j v d h1 h2 => hh (j + 1) v d h1 h2)
theorem list_call {a b : Int} (h1 : small a = true) (h2 : small b = true) (h3 : short (b - a).toNat = true) : CallOk w K l (.fn (.type "list")) [.rng a b] (.d (.list ((intRange a b).map .int))) := callOk_of rfl (fun A s P Q E vals ro g fr ra out => by
  have h1 := small_iff h1
  have h2 := small_iff h2
  have h3 := short_le h3
  cases ra with
  | cons r1 r2 =>
  cases r2
  obtain ⟨rr, t, u, w', rfl, hr⟩ := r1
  have hsz : Builtin.Range.rangeSize a b 1 = ((b - a).toNat : Int) := by
    rw [rangeSize_one]; split <;> omega
  refine call_list_range ro.handled hr (small_one (by omega) (by omega) (by omega) (by omega)) hsz (by omega) fun h' tk acc c k ho hit => ?_
  refine out h' tk _ (.of_keep k) (g.keep k) ?_
  refine Rd.list ⟨_, ho, rfl, _, rfl⟩ (fr _ (fresh_none _)) ?_
  obtain ⟨hsz, hit⟩ := hit
  refine rd_each (by simpa [intRange] using hsz) fun j v d h1 h2 => ?_
  obtain ⟨t', rfl⟩ := hit j v (by simpa using h1)
  rw [List.getElem?_map, intRange_get] at h2
  split at h2
  · obtain rfl : PyData.int (a + (j : Int)) = d := Option.some.inj h2
    rw [Int.mul_one]; exact Rd.int _ _
  · cases h2) l
theorem tuple_call {v : V} {xs : List PyData} (e : ListR v xs) (hs : short xs.length = true) : CallOk w K l (.fn (.type "tuple")) [v] (.d (.tuple xs)) := callOk_of rfl (fun A s P Q E vals ro g fr ra out => by
  cases ra with
  | cons r1 r2 =>
  cases r2
  obtain ⟨a, vs, rfl, hl, hr⟩ := list_inv e r1
  refine call_tuple_list hl (fun h' k => ?_) (by rw [hr.size]; exact short_line hs)
  exact out _ _ _ ((Ext.of_keep k).push _) ((g.keep k).push _) (Rd.tuple ⟨_, Heap.get?_push_size _ rfl, rfl, _, rfl⟩ (hr.ext ((Ext.of_keep k).push _)))) l
end
end Mine
namespace Mine
open PySem PySem.Spec PySem.Calls PySem.W PyProof.Rows
open PySem.Builtin PySem.Builtin.Str

/-! ## parameters -/
noncomputable def PlainBind (fd : FuncData) (names : List Str) : Prop := ∀ vals : List Value, vals.length = names.length → bindArgs fd ⟨vals, []⟩ = pure (names.zip vals)
theorem bind_plain {K : Frag} {fd : FuncData} {ρ : Rho} (h : PlainBind fd (ρ.map (·.1))) : BindOk K fd (ρ.map (·.2)) ρ := by
  intro M A s P Q E vals g f a hq
  have hl : vals.length = (ρ.map (·.1)).length := by rw [a.length]; simp
  rw [h vals hl]
  exact wpAny_pure (hq s.heap s.toks vals (Ext.refl _) g a)
theorem bind_star {K : Frag} {fd : FuncData} {x y : Str} {v : V} {ds : List PyData} (hs : ds.length ≤ 8) (h : ∀ t rest, rest.length = ds.length → bindArgs fd ⟨t :: rest, []⟩ = (newTuple rest >>= fun p => pure [(x, t), (y, p)])) :
    BindOk K fd (v :: ds.map .d) [(x, v), (y, .d (.tuple ds))] := by
  intro M A s P Q E vals g f a hq
  cases a with
  | cons r q =>
    rename_i u us
    have hl : us.length = ds.length := by rw [q.length]; simp
    rw [h u us hl]
    refine wpAny_bind (wpAny_newTuple ?_ (by have : us.length ≤ 8 := by omega
                                             exact Nat.le_trans this (by decide)))
    have x1 : Ext s.heap (s.heap.push { cls := .type "tuple", data := .seq us.toArray }) := ext_push _ _
    refine wpAny_pure (hq _ s.toks [u, .ref s.heap.objs.size] x1 (g.push _) ?_)
    refine .cons (r.ext x1) (.cons ?_ .nil)
    exact Rd.tuple ⟨_, Heap.get?_push_size _ rfl, rfl, _, rfl⟩ ((all2_d q).ext x1)

/-! ## the fields of a Whitespace, read -/
structure WsTop (K : Frag) : Prop where
  ga : findIn K (.ref CLS) "__getattribute__" = some (some (.builtin "object.__getattribute__"))
  gat : findIn K (.ref CLS) "__getattr__" = some none
  cls : ∃ cd, clsIn K CLS = some cd ∧ cd.hasDict = true
  fld : ∀ x ∈ ["raw", "n", "nt", "norm", "is_simple"], findIn K (.ref CLS) (Str.ofString x) = some none

theorem WsAt.inst {h : Heap} {P : Addr → Prop} {raw : Str} {v : Value} (r : WsAt h P raw v) : ∃ x ox od, v = .ref x ∧ InstAt h x ox CLS (some od) ∧
    (∀ name d, (wsFields raw).lookup name = some d → ∃ val, lookIn name od = some (some val) ∧ Rd h P d val) ∧ (∀ name, (wsFields raw).lookup name = none → lookIn name od = some none) := by
  obtain ⟨x, ox, dx, od, e, h1, h2, h3, h4, h5, h6, h7, h8, h9⟩ := r.ex
  exact ⟨x, ox, od, e, ⟨h1, h2, by unfold notCls; rw [h3], by rw [h4]; exact h6⟩, h8, h9⟩
theorem Rd.handed {h : Heap} {P : Addr → Prop} {d : PyData} {v : Value} (r : Rd h P d v) : handedIn v = true := by
  obtain ⟨as, r, _⟩ := r
  cases r <;> rfl

section
variable {w : World} {K : Frag}
theorem attr_ws (T : WsTop K) {raw : Str} {x : String} {d : PyData} (hx : x ∈ ["raw", "n", "nt", "norm", "is_simple"]) (hd : (wsFields raw).lookup (Str.ofString x) = some d) : AttrOk w K (.ws raw) (Str.ofString x) (.d d) := by
  intro A s P Q E ov b g r out
  obtain ⟨a, ox, od, rfl, I, h8, _⟩ := WsAt.inst r
  obtain ⟨val, h1, h2⟩ := h8 _ _ hd
  obtain ⟨cd, hc, hdict⟩ := T.cls
  refine get_value (K := K) g.inn I T.ga (v := val) ?_ h2.handed (out s.heap _ val (Ext.refl _) g h2)
  unfold findObj
  rw [hc, Option.bind_some, T.fld x hx, Option.bind_some]
  dsimp only
  rw [Option.bind_some, Option.bind_some]
  dsimp only
  unfold PySem.W.ownOf
  rw [hdict, if_pos rfl]
  dsimp only
  rw [h1]; rfl

/-- a class's own value -/
theorem attr_cls {x : Str} {t : Tok} {y : Str} (hr : readsIn K CLS (.type "type") = true) (e : findCls K (.ref CLS) (.type "type") x = some (.val (.str y t))) : AttrOk w K (.fn (.ref CLS)) x (.d (.str y)) := by
  intro A s P Q E ov b g r out
  rw [show ov = .ref CLS from r]
  exact cls_value (K := K) g.inn hr e rfl (out s.heap _ _ (Ext.refl _) g (Rd.str _ _))

/-- a method -/
theorem meth_ws (T : WsTop K) {l : Nat} {raw : Str} {x : Str} {f : Addr} {vs : List V} {r : V} (hf : findIn K (.ref CLS) x = some (some (.ref f))) (ht : typeIn K (.ref f) = some (.type "function")) (hx : (wsFields raw).lookup x = none)
    (c : CallOk w K l (.fn (.ref f)) (.ws raw :: vs) r) : MethOk w K l (.ws raw) x vs r := by
  refine ⟨.fn (.ref f), c, fun A s P Q E pl ov g rv hq => ?_⟩
  obtain ⟨a, ox, od, rfl, I, _, h9⟩ := WsAt.inst rv
  exact method_fn (K := K) g.inn I T.ga T.gat hf ht (by unfold shadowIn; dsimp only; rw [h9 x hx]; rfl) (hq _ rfl)
end
end Mine
namespace Mine
open PySem PySem.Spec PySem.Calls PySem.W PyProof.Rows
open PySem.Builtin PySem.Builtin.Str PySem.Builtin.ObjectAttr

/-! ## the dict of an object that is being made -/
inductive EsIs : List DictEntry → List (Str × Value) → Prop
  | nil : EsIs [] []
  | cons {es D h k t v} : EsIs es D → EsIs (⟨h, .str k t, v⟩ :: es) ((k, v) :: D)
theorem isStr_str {k name : Str} {t : Tok} : (Value.str k t).isStr name = (k == name) := by
  unfold Value.isStr; rfl
theorem EsIs.get {name : Str} {es D} (e : EsIs es D) : getL name es = some (D.lookup name) := by
  induction e with
  | nil => rfl
  | @cons es D h k t v r ih =>
    unfold getL at ih ⊢
    rw [List.find?_cons, List.lookup_cons, isStr_str]
    cases h : k == name with
    | true =>
      have := eq_of_beq h
      subst this
      rw [beq_self_eq_true]
    | false =>
      have h2 : (name == k) = false := by
        cases q : name == k with
        | false => rfl
        | true => rw [eq_of_beq q, beq_self_eq_true] at h; cases h
      rw [h2]
      dsimp only
      rw [← ih]
      cases List.find? (fun x => x.key.isStr name) es <;> rfl
theorem EsIs.put {name : Str} {hsh : Int} {tk : Tok} {v : Value} {es D} (r : EsIs es D) (e : D.lookup name = none) : EsIs (putL name hsh (.str name tk) v es) (D ++ [(name, v)]) := by
  induction r with
  | nil => exact .cons .nil
  | @cons es D h k t v' r ih =>
    rw [List.lookup_cons] at e
    cases hk : name == k with
    | true => rw [hk] at e; cases e
    | false =>
      rw [hk] at e
      have : (k == name) = false := by
        cases q : k == name with
        | false => rfl
        | true => rw [eq_of_beq q, beq_self_eq_true] at hk; cases hk
      unfold putL
      rw [isStr_str, this]
      exact .cons (ih e)
theorem EsIs.length {es D} (r : EsIs es D) : es.length = D.length := by
  induction r with
  | nil => rfl
  | cons _ ih => exact congrArg Nat.succ ih

structure SetTop (K : Frag) (x : Str) : Prop where
  sa : findIn K (.ref CLS) "__setattr__" = some (some (.builtin "object.__setattr__"))
  plain : plainOver K CLS = true
  taker : takerIn K CLS x = some none
  dict : ∃ cd, clsIn K CLS = some cd ∧ cd.hasDict = true

section
variable {w : World} {A : Around} {E : Value → Shared → Prop} {s : Shared} {K : Frag}
theorem set_ws {x dx : Addr} {es : List DictEntry} {n : Nat} {D : List (Str × Value)} {name : Str} {v : Value} {Q : Unit → Shared → Prop} (T : SetTop K name) (X : K.In s.heap) (hx : s.heap.get? x = some (instObj CLS dx))
    (hd : s.heap.get? dx = some (dictOf es n)) (e : EsIs es D) (hz : es.length ≤ 500) (hn : D.lookup name = none)
    (hq : ∀ h' es' n' tk, EsIs es' (D ++ [(name, v)]) → es'.length = es.length + 1 → Heap.SameBut dx s.heap h' → h'.get? dx = some (dictOf es' n') → Q () { s with heap := h', toks := tk }) :
    wpAny (model prog w) A (setAttr (.ref x) name v) Q E s := by
  have I : InstAt s.heap x (instObj CLS dx) CLS (some (dictOf es n)) := ⟨hx, rfl, rfl, hd⟩
  refine set_plain X I T.sa ?_
  refine osa_open (s := { s with toks := s.toks + 1 }) X I T.plain T.taker fun b => ?_
  obtain ⟨cd, hc, hd'⟩ := T.dict
  refine wpAny_bind (wpAny_pure (wpAny_bind (wpAny_bind (wpAny_loadPart hx (wpAny_bind (looks_clsIn (M := model prog w) X hc _ _ _ _ (fun _ _ e => e) ?_))))))
  rw [hd']
  refine wpAny_pure (a := some dx) (wpAny_bind (wpAny_pure (wpAny_bind ?_)))
  unfold nsSet
  refine wpAny_bind (wpAny_bind (wpAny_askSetting (wpAny_pure (wpAny_bind (wpAny_mkText (wpAny_bind (wpAny_loadPart hd ?_)))))))
  dsimp only
  have c : (!es.toArray.any (·.key.isStr name) && es.toArray.any (·.refKey)) = false := by
    have : ∀ {es D}, EsIs es D → es.any (·.refKey) = false := by
      intro es D q
      induction q with
      | nil => rfl
      | cons r ih => rw [List.any_cons, ih]; rfl
    rw [← Array.any_toList, ← Array.any_toList, this e, Bool.and_false]
  rw [aRefKeyMayBeTheName_at, c]
  refine wpAny_updatePart hd ?_
  have hput := putName_dict name (PyData.keyHash w.params name) (.str name (s.toks + 1)) v es n
  have hlen : (putL name (PyData.keyHash w.params name) (.str name (s.toks + 1)) v es).length = es.length + 1 := by
    rw [(e.put hn).length, e.length]; simp
  have D' : (s.heap.update dx (Obj.putName name (PyData.keyHash w.params name) (.str name (s.toks + 1)) v)).get? dx = some (dictOf (putL name (PyData.keyHash w.params name) (.str name (s.toks + 1)) v es) (putN name es n)) := by
    rw [← hput]
    exact Heap.get?_update_self _ hd (by rw [hput]; rfl)
  refine wpAny_bind (wpAny_lookBehind D' (pastItsLine_dict (by rw [List.size_toArray, sizeLine_eq]; omega)) ?_)
  exact wpAny_pure (hq _ _ _ _ (e.put hn) hlen (Heap.SameBut.update _ _ _) D')
end
end Mine
namespace Mine
open PySem PySem.Spec PySem.Calls PySem.W PyProof.Rows
open PySem.Builtin PySem.Builtin.Str PySem.Builtin.ObjectAttr

theorem execs_app_eq {env : Env} {b : List Stmt} (a : List Stmt) : execs (a ++ b) env = (execs a env >>= fun f => match f with | .next => execs b env | f => pure f) := by
  induction a with
  | nil => rfl
  | cons st a ih =>
    rw [List.cons_append, execs_cons, execs_cons, bind_assoc]
    congr 1
    funext f
    cases f with
    | next => exact ih
    | brk => rfl
    | cont => rfl
    | ret v => rfl
theorem execs_app {M : Model} {A : Around} {env : Env} {E : Value → Shared → Prop} {b : List Stmt} {a : List Stmt} {s : Shared} {Q : Flow → Shared → Prop}
    (h : wpAny M A (execs a env) (fun f s' => match f with | .next => wpAny M A (execs b env) Q E s' | f => Q f s') E s) : wpAny M A (execs (a ++ b) env) Q E s := by
  rw [execs_app_eq]
  refine wpAny_bind (wpAny_mono h (fun f s' q => ?_) fun _ _ x => x)
  cases f with
  | next => exact q
  | brk => exact wpAny_pure q
  | cont => exact wpAny_pure q
  | ret v => exact wpAny_pure q
theorem weight_tc (C : Addr) (r : List Value) (kw : List (Str × Value)) : (Code.builtin "type.__call__" ⟨.ref C :: r, kw⟩).weight = 1 := by
  unfold Code.weight Code.isGuard Code.isCaller Code.isCreation
  rfl
theorem room_tc {l : Nat} {A : Around} (ro : Room (l + 1) A) (C : Addr) (r : List Value) (kw : List (Str × Value)) : Room l (A.under (.builtin "type.__call__" ⟨.ref C :: r, kw⟩)) :=
  ⟨ro.handled, by have := ro.depth; show A.depth + (Code.builtin "type.__call__" ⟨.ref C :: r, kw⟩).weight + l < 900; rw [weight_tc]; omega, by have := ro.units; show A.units + 1 + 20 * l + 300 < cLine; omega⟩
section
variable {w : World} {K : Frag} {l : Nat}
/-! ## rows of stores -/
def NoSwaps (value : Expr) : Prop := ∀ t line env, swapsWith value (some t) line env = pure false
structure StoreS where
  name : Str
  value : Expr
  d : PyData
  p : Pos
  p' : Pos
  pos : Pos
noncomputable def StoreS.st (self : Str) (a : StoreS) : Stmt := .Assign [.Attribute (.Name self a.p) a.name a.p'] a.value a.pos
noncomputable def DRel (h : Heap) (P : Addr → Prop) (D : List (Str × Value)) (ds : List (Str × PyData)) : Prop := All2 (fun p q => p.1 = q.1 ∧ Rd h P q.2 p.2) D ds
theorem DRel.some {h : Heap} {P : Addr → Prop} {D ds} (r : DRel h P D ds) (name : Str) (d : PyData) (e : ds.lookup name = some d) : ∃ v, D.lookup name = some v ∧ Rd h P d v := by
  induction r with
  | nil => cases e
  | @cons p q _ _ r _ ih =>
    obtain ⟨k, v⟩ := p
    obtain ⟨k', d'⟩ := q
    obtain ⟨r1, r2⟩ := r
    cases r1
    rw [List.lookup_cons] at e ⊢
    cases hk : name == k with
    | true => rw [hk] at e; cases e; exact ⟨v, rfl, r2⟩
    | false => rw [hk] at e; exact ih e
theorem DRel.none {h : Heap} {P : Addr → Prop} {D ds} (r : DRel h P D ds) (name : Str) (e : ds.lookup name = none) : D.lookup name = none := by
  induction r with
  | nil => rfl
  | @cons p q _ _ r _ ih =>
    obtain ⟨k, v⟩ := p
    obtain ⟨k', d'⟩ := q
    obtain ⟨r1, r2⟩ := r
    cases r1
    rw [List.lookup_cons] at e ⊢
    cases hk : name == k with
    | true => rw [hk] at e; cases e
    | false => rw [hk] at e; exact ih e
theorem DRel.imp {h h' : Heap} {P P' : Addr → Prop} {D ds} (k : ∀ d v, Rd h P d v → Rd h' P' d v) (r : DRel h P D ds) : DRel h' P' D ds := All2.imp (fun a b q => ⟨q.1, k _ _ q.2⟩) r

structure Making (C : Cx) (ρ : Rho) (h : Heap) (P : Addr → Prop) (f : Str → Option Value) (x dx : Addr) (D : List (Str × Value)) (ds : List (Str × PyData)) : Prop where
  sr : SR C ρ h P f
  out : ItOut C P dx
  inst : h.get? x = some (instObj CLS dx)
  dict : ∃ es n, h.get? dx = some (dictOf es n) ∧ EsIs es D
  rel : DRel h P D ds

variable {sc : Sc} {ow : List (Str × Bool)}
theorem st_store {C : Cx} (c : CxOk K sc ow C) {A : Around} (ro : Room l A) {s : Shared} {ρ : Rho} {P : Addr → Prop} {f : Str → Option Value} {E : Value → Shared → Prop} {Q : Flow → Shared → Prop} {x dx : Addr} {D : List (Str × Value)} {ds : List (Str × PyData)}
    {self : Str} {a : StoreS} (T : SetTop K a.name) (hself : Ev w K l sc ρ (.Name self a.p) (.fn (.ref x))) (hv : Ev w K l sc ρ a.value (.d a.d)) (hnc : NoSwaps a.value) (hn : ds.lookup a.name = none) (hz : ds.length ≤ 100)
    (m : Making C ρ s.heap P f x dx D ds) (hne : x ≠ dx)
    (hQ : ∀ h' tk val, Making C ρ h' P f x dx (D ++ [(a.name, val)]) (ds ++ [(a.name, a.d)]) → Q .next { s with heap := h', toks := tk }) : wpAny (model prog w) A (exec (a.st self) C.env) Q E s := by
  refine plainObj_wpAny_Assign_Attribute ?_ (hnc _ _ _)
  refine sr_eval c hv ro m.sr fun h1 tk1 val S1 x1 g1 r1 => ?_
  refine sr_eval c (s := { s with heap := h1, toks := tk1 }) hself ro S1 fun h2 tk2 ov S2 x2 g2 r2 => ?_
  rw [show ov = .ref x from r2]
  obtain ⟨es, n, hd, he⟩ := m.dict
  have x12 := x1.trans x2
  have hd2 : h2.get? dx = some (dictOf es n) := x12.cls hd (fun e => nomatch e)
  have hx2 : h2.get? x = some (instObj CLS dx) := x12.cls m.inst (fun e => nomatch e)
  have hl : es.length = ds.length := by
    rw [he.length]; exact (All2.length m.rel).symm
  refine set_ws (s := { s with heap := h2, toks := tk2 }) T g2.inn hx2 hd2 he (by omega) (m.rel.none _ hn) fun h3 es' n' tk3 he' hl' sb hd3 => ?_
  have k3 : Chg (· = dx) h2 h3 := fun b o hb e => (sb.2 b hb).trans e
  have lo : Loose h2 P (· = dx) := fun b o e q => by subst e; rw [hd2] at q; cases q; exact ⟨m.out.p, .dict rfl⟩
  have S3 := S2.iterOn m.out hd2 (.dict rfl) (fun _ _ e => nomatch e) k3 (by rw [hd3]; exact fun e => nomatch e)
  refine hQ h3 tk3 val ⟨S3, m.out, k3 _ _ hne hx2, ⟨es', n', hd3, he'⟩, ?_⟩
  refine All2.append ((m.rel.imp fun d v r => (r.ext x12).chg k3 lo.rd)) (.cons ⟨rfl, ?_⟩ .nil)
  have r1 : Rd h1 P a.d val := r1
  exact (r1.ext x2).chg k3 lo.rd

theorem lookup_nodup {ds : List (Str × PyData)} {x : Str} {r : List Str} (h : nodupS ((ds.map (·.1)) ++ x :: r) = true) : ds.lookup x = none := by
  induction ds with
  | nil => rfl
  | cons p ds ih =>
    rw [List.map_cons, List.cons_append, nodupS, Bool.and_eq_true] at h
    have : (x == p.1) = false := by
      have h := h.1
      simp at h
      simpa using fun e => h.2.1 e.symm
    rw [List.lookup_cons, this]
    exact ih h.2
theorem stores_sound {C : Cx} (c : CxOk K sc ow C) {A : Around} (ro : Room l A) {ρ : Rho} {P : Addr → Prop} {f : Str → Option Value} {E : Value → Shared → Prop} {x dx : Addr} {self : Str} (hne : x ≠ dx)
    {L : List StoreS} {s : Shared} {Q : Flow → Shared → Prop} {D : List (Str × Value)} {ds : List (Str × PyData)}
    (hL : ∀ a ∈ L, SetTop K a.name ∧ Ev w K l sc ρ (.Name self a.p) (.fn (.ref x)) ∧ Ev w K l sc ρ a.value (.d a.d) ∧ NoSwaps a.value) (hnd : nodupS ((ds.map (·.1)) ++ L.map (·.name)) = true) (hz : ds.length + L.length ≤ 100)
    (m : Making C ρ s.heap P f x dx D ds)
    (hQ : ∀ h' tk D', Making C ρ h' P f x dx D' (ds ++ L.map fun a => (a.name, a.d)) → Q .next { s with heap := h', toks := tk }) : wpAny (model prog w) A (execs (L.map (·.st self)) C.env) Q E s := by
  induction L generalizing s D ds with
  | nil => exact wpAny_execs_nil (hQ s.heap s.toks D (by rw [List.map_nil, List.append_nil]; exact m))
  | cons a L ih =>
    obtain ⟨h1, h2, h3, h4⟩ := hL a List.mem_cons_self
    rw [List.map_cons]
    have e : ∀ z : List (Str × PyData), (ds ++ [(a.name, a.d)]) ++ z = ds ++ (a.name, a.d) :: z := fun z => List.append_assoc _ _ _
    refine wpAny_execs_cons (st_store c ro h1 h2 h3 h4 (lookup_nodup hnd) (Nat.le_trans (Nat.le_add_right _ _) hz) m hne fun h' tk val m' => ?_)
    refine ih (s := { s with heap := h', toks := tk }) (fun b hb => hL b (List.mem_cons_of_mem _ hb)) (by rw [List.map_append, List.append_assoc]; exact hnd) (by rw [List.length_append]; exact (Nat.add_assoc _ 1 _).symm ▸ (Nat.add_comm 1 L.length) ▸ hz) m' fun h'' tk' D' m'' => hQ h'' tk' D' (e _ ▸ m'')
end
end Mine
namespace Mine
open PySem PySem.Spec PySem.Calls PySem.W PyProof.Rows
open PySem.Builtin PySem.Builtin.Str PySem.Builtin.ObjectAttr

/-! ## more of the heap is known -/
noncomputable def Sub (K K' : Frag) : Prop := (∀ a o, K.lookup a = some o → K'.lookup a = some o) ∧ K'.lookup TAB = none
section
variable {w : World} {K K' : Frag} {l : Nat}
theorem Good.sub {h : Heap} (k : Sub K K') (g : Good K' h) : Good K h := ⟨fun a o e => g.inn a o (k.1 a o e), g.tab⟩
theorem Good.onto {h h' : Heap} (g : Good K' h) (hT : K'.lookup TAB = none) (x : Ext h h') (t : TabOk h') : Good K' h' := by
  refine ⟨fun a o e => ?_, t⟩
  rcases x a o (g.inn a o e) with q | ⟨q, _⟩
  · exact q
  · rw [q, hT] at e; cases e
theorem Out.sub {P : Addr → Prop} {v : V} {s : Shared} {Q : Value → Shared → Prop} (k : Sub K K') (g : Good K' s.heap) (o : Out K' P v s Q) : Out K P v s Q :=
  fun h' tk val x g' r => o h' tk val x (g.onto k.2 x g'.tab) r
theorem CallOk.sub {f : V} {vs : List V} {r : V} (k : Sub K K') (c : CallOk w K l f vs r) : CallOk w K' l f vs r :=
  ⟨fun A s P Q E fv g => c.keeper A s P Q E fv (g.sub k), fun A s P Q E fv vals ro g fr rf ra out => c.call A s P Q E fv vals ro (g.sub k) fr rf ra (out.sub k g)⟩
theorem AttrOk.sub {o : V} {name : Str} {r : V} (k : Sub K K') (c : AttrOk w K o name r) : AttrOk w K' o name r :=
  fun A s P Q E ov b g rv out => c A s P Q E ov b (g.sub k) rv (out.sub k g)
theorem MethOk.sub {o : V} {name : Str} {vs : List V} {r : V} (k : Sub K K') (c : MethOk w K l o name vs r) : MethOk w K' l o name vs r :=
  let ⟨f, a, b⟩ := c; ⟨f, a.sub k, fun A s P Q E pl ov g => b A s P Q E pl ov (g.sub k)⟩
theorem GlobOk.sub {x : Str} {v : V} (k : Sub K K') (c : GlobOk K x v) : GlobOk K' x v := fun h g => c h (g.sub k)

/-! ## a Whitespace is made -/
structure WsMk (K : Frag) (fi : Addr) : Prop where
  makes : makesIn K CLS = true
  init : findIn K (.ref CLS) "__init__" = some (some (.ref fi))
  isfn : typeIn K (.ref fi) = some (.type "function")
  sets : ∀ x ∈ ["raw", "n", "nt", "norm", "is_simple"], SetTop K (Str.ofString x)
  top : WsTop K
  tab : K.lookup TAB = none

theorem keeper_cls {C : Addr} {A : Around} {E : Value → Shared → Prop} {s : Shared} {Q : Keeper → Shared → Prop} (X : K.In s.heap) (hm : makesIn K C = true) (hq : ∀ k, Q k s) : wpAny (model prog w) A (keeperOf (.ref C)) Q E s := by
  obtain ⟨⟨oc, od, cd, sl, hC, _⟩, _, _, _, _, call, _⟩ := makes_of (M := model prog w) X hm
  unfold keeperOf
  refine wpAny_bind (wpAny_load hC ?_)
  dsimp only
  refine wpAny_bind (call.here (wpAny_pure (hq _)))

theorem ws_make {fi : Addr} (mk : WsMk K fi) {fd : FuncData} {body : List Stmt} (F : FnAt K fi fd body) (hbind : PlainBind fd ["self", "ws"]) {a0 : StoreS} {mid : List Stmt} {L : List StoreS}
    (hbody : body = a0.st "self" :: (mid ++ L.map (·.st "self"))) {t : Str} (hown : isOwnB fd.scope.names "self" = true ∧ isOwnB fd.scope.names "ws" = true)
    (h0 : a0.name = "raw" ∧ a0.d = .str t ∧ NoSwaps a0.value ∧ ∃ p, a0.value = .Name "ws" p)
    (hmid : ∀ x K', Sub K K' → AttrOk w K' (.fn (.ref x)) "raw" (.d (.str t)) → ∃ ρ', Bk w K' l fd.scope.names [("count", false)] [("self", .fn (.ref x)), ("ws", .d (.str t))] mid (.nx ρ') ∧
      ∀ a ∈ L, Ev w K l fd.scope.names ρ' (.Name "self" a.p) (.fn (.ref x)) ∧ Ev w K l fd.scope.names ρ' a.value (.d a.d) ∧ NoSwaps a.value)
    (hds : wsFields t = ((("raw" : Str), PyData.str t) :: L.map fun a => (a.name, a.d))) : CallOk w K (l + 2) (.fn (.ref CLS)) [.d (.str t)] (.ws t) := by
  refine ⟨fun A s P Q E fv g rf hq => ?_, fun A s P Q E fv vals ro g fr rf ra out => ?_⟩
  · rw [show fv = .ref CLS from rf]
    exact keeper_cls g.inn mk.makes hq
  · rw [show fv = .ref CLS from rf]
    cases ra with
    | cons rt rn =>
    cases rn
    rename_i tv
    refine wpAny_call ?_
    obtain ⟨hh, gn, dr, tk, os⟩ := s
    dsimp only at g fr rt out
    refine make_core (makes_of g.inn mk.makes) (looks_findIn g.inn mk.init) (fun self => bind_fn g.inn self mk.isfn) (.inl rfl) ?_
    -- the new objects
    generalize hx : hh.objs.size + 1 = x
    generalize hdx : hh.objs.size = dx at hx ⊢
    have fdx : hh.get? dx = none := by rw [← hdx]; exact fresh_none _
    have fx : hh.get? x = none := by
      cases e : hh.get? x with
      | none => rfl
      | some o => exact absurd (show x < dx from hdx ▸ Heap.lt_size e) (by omega)
    have hxd : x ≠ dx := by omega
    have e1 : Ext hh ((hh.push emptyDict).push (instObj CLS dx)) := (ext_push _ _).push _
    have gdx : ((hh.push emptyDict).push (instObj CLS dx)).get? dx = some emptyDict := Heap.get?_push_of_some _ (by rw [← hdx]; exact Heap.get?_push_size _ rfl)
    have gx : ((hh.push emptyDict).push (instObj CLS dx)).get? x = some (instObj CLS dx) := by
      have : x = (hh.push emptyDict).objs.size := by rw [Heap.size_push]; omega
      rw [this]; exact Heap.get?_push_size _ rfl
    have g1 : Good K ((hh.push emptyDict).push (instObj CLS dx)) := (g.push _).push _
    generalize hs1 : ((hh.push emptyDict).push (instObj CLS dx)) = h1 at e1 gdx gx g1 ⊢
    have kdx : K.lookup dx = none := lookup_none_of_fresh g.inn fdx
    have kx : K.lookup x = none := lookup_none_of_fresh g.inn fx
    have fr1 : FreshOk (fun a => P a ∧ a ≠ dx) h1 := fun a e => ⟨fr a (e1.none e), fun q => by rw [q, gdx] at e; cases e⟩
    have rt1 : RV h1 (fun a => P a ∧ a ≠ dx) (.d (.str t)) tv := by
      obtain ⟨u, rfl⟩ := Rd.str_inv rt
      exact Rd.str _ _
    refine enter_fn (s := ⟨h1, gn, dr, tk, os⟩) (ow := [("count", false)]) (P := fun a => P a ∧ a ≠ dx) (PC := P) (X := (· = dx)) (ρ := [("self", .fn (.ref x)), ("ws", .d (.str t))]) F (vs := [.fn (.ref x), .d (.str t)]) (bind_plain (ρ := [("self", .fn (.ref x)), ("ws", .d (.str t))]) hbind) rfl
      (by simp only [List.all_cons, List.all_nil, Bool.and_true, notOwn, hown.1, hown.2]) (room_tc ro _ _ _) g1 fr1 (fun b p => p.1) (.cons rfl (.cons rt1 .nil)) ?_
    intro C h2 tk2 f E' c ro2 hPr hZ hPCe _ S x2 hM
    have i0 : ItOut C (fun b => (P b ∧ b ≠ dx) ∧ ¬ C.M b) dx := ⟨fun p => p.1.2 rfl, by rw [c.k]; exact kdx, fun o p => by rw [hPr] at p; exact p.2 rfl, fun mm => (by have := hM _ mm; rw [gdx] at this; cases this), by rw [hPCe]; exact fr _ fdx⟩
    have m0 : Making C [("self", .fn (.ref x)), ("ws", .d (.str t))] h2 (fun b => (P b ∧ b ≠ dx) ∧ ¬ C.M b) f x dx [] [] :=
      ⟨S, i0, x2.cls gx (fun e => nomatch e), ⟨[], 0, x2.cls gdx (fun e => nomatch e), .nil⟩, .nil⟩
    subst hbody
    have rawOk : SetTop K a0.name := by rw [h0.1]; exact mk.sets "raw" (by simp)
    have hself : Ev w K l fd.scope.names [("self", .fn (.ref x)), ("ws", .d (.str t))] (.Name "self" a0.p) (.fn (.ref x)) := ev_name rfl rfl rfl
    have hws : Ev w K l fd.scope.names [("self", .fn (.ref x)), ("ws", .d (.str t))] a0.value (.d a0.d) := by
      obtain ⟨p, hp⟩ := h0.2.2.2
      rw [hp, h0.2.1]; exact ev_name rfl rfl rfl
    refine wpAny_execs_cons (st_store c ro2 (s := ⟨h2, gn, dr, tk2, os⟩) rawOk hself hws h0.2.2.1 rfl (by decide) m0 hxd fun h3 tk3 v0 m3 => ?_)
    refine execs_app ?_
    -- the middle: what is made so far is known
    obtain ⟨es, n, hd3, he3⟩ := m3.dict
    have hx3 := m3.inst
    let K' : Frag := (dx, dictOf es n) :: (x, instObj CLS dx) :: K
    have hT : TAB ≠ dx ∧ TAB ≠ x := by
      obtain ⟨vs, e, _⟩ := g.tab
      exact ⟨fun q => (by rw [← q, e.1] at fdx; cases fdx), fun q => (by rw [← q, e.1] at fx; cases fx)⟩
    have kl : ∀ a, K'.lookup a = if a = dx then some (dictOf es n) else if a = x then some (instObj CLS dx) else K.lookup a := by
      intro a
      show List.lookup a ((dx, dictOf es n) :: (x, instObj CLS dx) :: K) = _
      rw [List.lookup_cons, List.lookup_cons]
      by_cases ha : a = dx
      · subst ha; simp
      · have : (a == dx) = false := by simpa using ha
        rw [this, if_neg ha]
        by_cases hb : a = x
        · subst hb; simp
        · have : (a == x) = false := by simpa using hb
          rw [this, if_neg hb]
    have sub : Sub K K' := ⟨fun a o e => by
      rw [kl]
      by_cases ha : a = dx
      · rw [ha, kdx] at e; cases e
      · rw [if_neg ha]
        by_cases hb : a = x
        · rw [hb, kx] at e; cases e
        · rw [if_neg hb]; exact e, by rw [kl, if_neg hT.1, if_neg hT.2]; exact mk.tab⟩
    have g3 : Good K' h3 := by
      have g := m3.sr.good
      refine ⟨fun a o e => ?_, g.tab⟩
      rw [kl] at e
      by_cases ha : a = dx
      · rw [if_pos ha] at e; cases e; rw [ha]; exact hd3
      · rw [if_neg ha] at e
        by_cases hb : a = x
        · rw [if_pos hb] at e; cases e; rw [hb]; exact hx3
        · rw [if_neg hb] at e; exact g.inn a o (by rw [c.k]; exact e)
    have OM : AttrOk w K' (.fn (.ref x)) "raw" (.d (.str t)) := by
      intro A s P Q E ov b g rv out
      rw [show ov = .ref x from rv]
      have gg := g.sub sub
      have I : InstAt s.heap x (instObj CLS dx) CLS (some (dictOf es n)) := ⟨g.inn _ _ (by rw [kl, if_neg hxd, if_pos rfl]), rfl, rfl, g.inn _ _ (by rw [kl, if_pos rfl])⟩
      obtain ⟨cd, hc, hdict⟩ := mk.top.cls
      have hl := m3.rel.some "raw" (.str t) (by rw [h0.1, h0.2.1]; rfl)
      obtain ⟨rv0, hl1, hl2⟩ := hl
      obtain ⟨u, rfl⟩ := Rd.str_inv hl2
      refine get_value (K := K) gg.inn I mk.top.ga (v := .str t u) ?_ rfl (out s.heap _ _ (Ext.refl _) g (Rd.str _ _))
      unfold findObj
      rw [hc, Option.bind_some, mk.top.fld "raw" (by simp), Option.bind_some]
      dsimp only
      rw [Option.bind_some, Option.bind_some]
      dsimp only
      unfold PySem.W.ownOf
      rw [hdict, if_pos rfl]
      dsimp only
      rw [lookIn_dict, he3.get, hl1]; rfl
    have hzC : ∀ b, C.Z b → ∃ o, C.Pr b o := fun b q => by rw [hZ] at q; exact q.elim
    have S3 := m3.sr.protect m3.out hd3 (fun _ _ e => nomatch e)
    let C' : Cx := { (C.withIt dx (dictOf es n)) with K := K' }
    have S3' : SR C' [("self", .fn (.ref x)), ("ws", .d (.str t))] h3 (fun b => (P b ∧ b ≠ dx) ∧ ¬ C.M b) f := by
      have noOwn : ∀ y ys, List.lookup y ([("self", V.fn (.ref x)), ("ws", .d (.str t))] : Rho) = some (.own ys) → False := by
        intro y ys e
        rw [List.lookup_cons, List.lookup_cons] at e
        split at e
        · cases e
        · split at e
          · cases e
          · cases e
      refine ⟨S3.frame, S3.vars, fun y ys b q _ => (noOwn y ys q).elim, S3.dist, S3.plain, fun b mm => ⟨(S3.mu b mm).1, ?_, (S3.mu b mm).2.2⟩, S3.fresh, g3, S3.sub, S3.z, S3.holds⟩
      show K'.lookup b = none
      have hb := hM b mm
      rw [kl, if_neg (fun q => by rw [q, gdx] at hb; cases hb), if_neg (fun q => by rw [q, gx] at hb; cases hb)]
      exact lookup_none_of_fresh g1.inn hb
    have c' : CxOk K' fd.scope.names [("count", false)] C' := ⟨rfl, c.hsc, c.pl, c.env⟩
    obtain ⟨ρ', hB, hL⟩ := hmid x K' sub OM
    refine hB C' (A := _) (s := ⟨h3, gn, dr, tk3, os⟩) (P := _) (f := f) (Q := _) (E := _) c' ro2 S3' ?_
    intro h4 tk4 P4 f4 S4 k4
    have S4' : SR (C.withIt dx (dictOf es n)) ρ' h4 P4 f4 := by
      refine ⟨S4.frame, S4.vars, fun y ys b q e => ?_, S4.dist, S4.plain, fun b mm => ?_, S4.fresh, ?_, S4.sub, S4.z, S4.holds⟩
      · obtain ⟨u1, u2, u3⟩ := S4.own y ys b q e
        refine ⟨u1, ?_, u3⟩
        show C.K.lookup b = none
        rw [c.k]
        cases q : K.lookup b with
        | none => rfl
        | some o => have := sub.1 b o q; rw [u2] at this; cases this
      · obtain ⟨u1, u2, u3⟩ := S4.mu b mm
        refine ⟨u1, ?_, u3⟩
        show C.K.lookup b = none
        rw [c.k]
        cases q : K.lookup b with
        | none => rfl
        | some o => have := sub.1 b o q; rw [u2] at this; cases this
      · show Good C.K h4
        rw [c.k]; exact S4.good.sub sub
    obtain ⟨S5, hd5, hp5⟩ := S4'.unprotect (fun e => nomatch e) hzC
    have hx5 : h4.get? x = some (instObj CLS dx) := S4.good.inn _ _ (by show K'.lookup x = _; rw [kl, if_neg hxd, if_pos rfl])
    have m5 : Making C ρ' h4 P4 f4 x dx ([] ++ [(a0.name, v0)]) ([] ++ [(a0.name, a0.d)]) := by
      refine ⟨S5, ⟨hp5, i0.k, i0.pr, i0.m, i0.pc⟩, hx5, ⟨es, n, hd5, he3⟩, m3.rel.imp fun d v r => Rd.kp k4 r⟩
    refine stores_sound c ro2 (s := ⟨h4, gn, dr, tk4, os⟩) hxd (fun a ha => ?_) ?_ ?_ m5 fun h6 tk6 D6 m6 => ?_
    · obtain ⟨q1, q2, q3⟩ := hL a ha
      refine ⟨?_, q1, q2, q3⟩
      have hm : (a.name, a.d) ∈ wsFields t := by rw [hds]; exact List.mem_cons_of_mem _ (List.mem_map.mpr ⟨a, ha, rfl⟩)
      have key : ∀ p ∈ wsFields t, SetTop K p.1 := by
        intro p hp
        unfold wsFields at hp
        simp only [List.mem_cons, List.not_mem_nil, or_false] at hp
        rcases hp with rfl | rfl | rfl | rfl | rfl
        · exact mk.sets "raw" (by simp)
        · exact mk.sets "n" (by simp)
        · exact mk.sets "nt" (by simp)
        · exact mk.sets "norm" (by simp)
        · exact mk.sets "is_simple" (by simp)
      exact key _ hm
    · have : (([] ++ [(a0.name, a0.d)] : List (Str × PyData)).map (·.1) ++ L.map (·.name)) = (wsFields t).map (·.1) := by
        rw [hds, h0.1]; simp
      rw [this]; rfl
    · have : (wsFields t).length = 5 := rfl
      rw [hds] at this
      simp at this
      simp; omega
    · dsimp only
      refine ⟨rfl, ?_⟩
      obtain ⟨es6, n6, hd6, he6⟩ := m6.dict
      have hall : ([] ++ [(a0.name, a0.d)] ++ L.map fun a => (a.name, a.d)) = wsFields t := by rw [hds, h0.1, h0.2.1]; rfl
      have rel6 := m6.rel
      rw [hall] at rel6
      have x6 : Ext hh h6 := by
        intro b o q
        have hb : b ≠ dx := fun e => by rw [e, fdx] at q; cases q
        rcases e1 b o q with z | ⟨z1, vs, more, z2, z3⟩
        · exact m6.sr.holds b o (by rw [hPr]; exact ⟨z, hb⟩)
        · rcases m6.sr.holds b _ (by rw [hPr]; exact ⟨z3, hb⟩) with y | ⟨_, vs', more', y2, y3⟩
          · exact .inr ⟨z1, vs, more, z2, y⟩
          · have : vs' = vs ++ more := by
              have := y2
              simp only [tabObj, Obj.mk.injEq, Data.fields.injEq] at this
              exact this.2.2.1.symm
            subst this
            exact .inr ⟨z1, vs, more ++ more', z2, by rw [y3, Array.append_assoc]⟩
      refine out h6 tk6 _ x6 (c.k ▸ m6.sr.good) ⟨x, instObj CLS dx, dx, dictOf es6 n6, rfl, m6.inst, rfl, rfl, rfl, fr _ fdx, hd6, rfl, fun nm d e => ?_, fun nm e => ?_⟩
      · obtain ⟨v, q1, q2⟩ := rel6.some nm d e
        exact ⟨v, by rw [lookIn_dict, he6.get, q1], q2.mono fun b p => by have := m6.sr.sub b p; rw [hPCe] at this; exact this⟩
      · rw [lookIn_dict, he6.get, rel6.none nm e]
end
end Mine
namespace Mine
open PySem PySem.Spec PySem.Calls PySem.W PyProof.Rows
open PySem.Builtin PySem.Builtin.Str PySem.Builtin.ObjectAttr

/-! ## all that stands is known -/
noncomputable def KeepC (h h' : Heap) : Prop := ∀ b o, h.get? b = some o → o.cls ≠ .none → h'.get? b = some o
section
variable {h h' : Heap} {P : Addr → Prop}
theorem Rd.keepC (x : KeepC h h') {d v} (r : Rd h P d v) : Rd h' P d v :=
  let ⟨as, r, p⟩ := r; ⟨as, ((move_both h h').1 r).2 fun b o e hb => x b o e (hb.elim isTup.cls fun q => q.1.cls), p⟩
theorem RdAll.keepC (x : KeepC h h') {d v} (r : RdAll h P d v) : RdAll h' P d v :=
  let ⟨as, r, p⟩ := r; ⟨as, ((move_both h h').2 r).2 fun b o e hb => x b o e (hb.elim isTup.cls fun q => q.1.cls), p⟩
theorem WsAt.keepC {raw v} (x : KeepC h h') (r : WsAt h P raw v) : WsAt h' P raw v := by
  obtain ⟨a, ox, dx, od, e, h1, h2, h3, h4, h5, h6, h7, h8, h9⟩ := r.ex
  exact ⟨a, ox, dx, od, e, x _ _ h1 (by rw [h2]; exact fun e => nomatch e), h2, h3, h4, h5, x _ _ h6 (by rw [h7]; exact fun e => nomatch e), h7,
    fun n d e => let ⟨v, a, b⟩ := h8 n d e; ⟨v, a, b.keepC x⟩, h9⟩
theorem KeepC.isList (x : KeepC h h') {a : Addr} {vs} (n : h.IsList a vs) : h'.IsList a vs := by
  obtain ⟨o, ho, hc, r⟩ := n
  exact ⟨o, x _ _ ho (by rw [hc]; exact fun e => nomatch e), hc, r⟩
theorem RV.keepC (x : KeepC h h') {v : V} {val : Value} (r : RV h P v val) : RV h' P v val := by
  cases v with
  | d => exact Rd.keepC x r
  | own => obtain ⟨a, vs, e, l, r⟩ := r; exact ⟨a, vs, e, x.isList l, r.keepC x⟩
  | rng => obtain ⟨r, t, u, w, e, k⟩ := r; exact ⟨r, t, u, w, e, x _ _ k (fun e => nomatch e)⟩
  | fn => exact r
  | ws => exact WsAt.keepC x r
  | wsl => obtain ⟨a, vs, e, p, l, r⟩ := r; exact ⟨a, vs, e, p, x.isList l, r.imp fun _ _ => WsAt.keepC x⟩
end
noncomputable def frozen (h : Heap) : Frag := (List.range h.objs.size).filterMap fun a => (if a = TAB then none else h.get? a).map fun o => (a, o)
theorem lookup_some_map {α : Type} {g : Nat → Option α} {a : Nat} {l : List Nat} : List.lookup a (l.filterMap fun b => (g b).map fun o => (b, o)) = if a ∈ l then g a else none := by
  induction l with
  | nil => rfl
  | cons b l ih =>
    rw [List.filterMap_cons]
    by_cases hab : a = b
    · subst hab
      rw [if_pos (List.mem_cons_self ..)]
      cases e : g a with
      | none =>
        show List.lookup a (l.filterMap _) = _
        rw [ih]; split
        · exact e
        · rfl
      | some o => show List.lookup a ((a, o) :: _) = _; rw [List.lookup_cons, beq_self_eq_true]
    · have hb : (a == b) = false := beq_eq_false_iff_ne.mpr hab
      have hm : (a ∈ b :: l) = (a ∈ l) := propext ⟨fun m => (List.mem_cons.mp m).resolve_left hab, List.mem_cons_of_mem _⟩
      simp only [hm]
      cases e : g b with
      | none => exact ih
      | some o => show List.lookup a ((b, o) :: _) = _; rw [List.lookup_cons, hb]; exact ih
theorem frozen_lookup {h : Heap} {a : Addr} : (frozen h).lookup a = if a = TAB then none else h.get? a := by
  unfold frozen
  rw [lookup_some_map (g := fun a => if a = TAB then none else h.get? a)]
  split
  · rfl
  · rename_i hm
    split
    · rfl
    · cases e : h.get? a with
      | none => rfl
      | some o => exact absurd (List.mem_range.mpr (Heap.lt_size e)) hm
theorem frozen_get {h : Heap} {a : Addr} {o : Obj} (e : (frozen h).lookup a = some o) : h.get? a = some o := by
  rw [frozen_lookup] at e
  split at e
  · cases e
  · exact e
section
variable {K : Frag} {h h' : Heap}
theorem frozen_sub (g : Good K h) (hT : K.lookup TAB = none) : Sub K (frozen h) := by
  refine ⟨fun a o e => ?_, by rw [frozen_lookup, if_pos rfl]⟩
  rw [frozen_lookup, if_neg (fun q => by rw [q, hT] at e; cases e)]
  exact g.inn a o e
theorem frozen_good (t : TabOk h) : Good (frozen h) h := ⟨fun a o e => frozen_get e, t⟩
theorem frozen_keepC (g : Good (frozen h) h') (t : TabOk h) : KeepC h h' := fun b o e hc => by
  refine g.inn b o ?_
  rw [frozen_lookup, if_neg fun q => ?_]
  · exact e
  · obtain ⟨vs, e', _⟩ := t
    rw [q, e'.1] at e; cases e; exact hc rfl
end

/-! ## a lambda is made -/
structure LamTop (K : Frag) : Prop where
  tab : K.lookup TAB = none
  code : codeHdIn K 164 TAB = true
  main : ∀ h, K.In h → ∃ mg, h.Ns mainGlobals mg ∧ h.BuiltinsAt mg TAB
  limit : ∀ h, Good K h → h.NoLimit

theorem codeAmong_app {pos : Pos} {c' cv : Value} {a b : Int} : ∀ {l : List Value}, TriplesOk l → codeAmong pos (l ++ [rawInt a, rawInt b, c']) = some cv → codeAmong pos l = some cv ∨ cv = c' := by
  intro l
  fun_induction TriplesOk l with
  | case1 =>
    intro _ h
    simp only [List.nil_append, codeAmong, rawInt] at h
    split at h
    · cases h; exact .inr rfl
    · cases h
  | case2 i t j u x rest ih =>
    intro ht h
    simp only [List.cons_append, codeAmong] at h ⊢
    split at h
    · rename_i hc; rw [if_pos hc]; exact .inl h
    · rename_i hc; rw [if_neg hc]; exact ih ht h
  | case3 l h1 h2 => intro h; exact h.elim

section
variable {M : Model} {A : Around} {E : Value → Shared → Prop} {s : Shared} {K : Frag} {name : Str} {params : Arguments} {body : Expr} {scope : Scope} {env : Env} {pos : Pos} {firstLine : Nat} {clos : List (Str × Addr)} {Q : Value → Shared → Prop}

noncomputable def LamOut (K : Frag) (h₀ : Heap) (s : Shared) (Q : Value → Shared → Prop) (name : Str) (params : Arguments) (body : Expr) (scope : Scope) (clos : List (Str × Addr)) : Prop :=
  ∀ h' tk f fo c oc pm ctv, Ext h₀ h' → Good K h' → h₀.get? f = none → h'.get? f = some fo → fo.data = .func (kla_fn name QLAM params body scope clos pm (.ref c) ctv) → h'.get? c = some oc → oc.cls = .type "code" → h'.CodeRec (.ref c) QLAM →
    fo.cls = .type "function" → Q (.ref f) { s with heap := h', toks := tk }

theorem lam_rest (T : LamTop K) {h₀ : Heap} (x0 : Ext h₀ s.heap) (hge : env.globals = mainGlobals) (hcode : env.code = .ref 164) (g : Good K s.heap) (ctv : Value) (h : LamOut K h₀ s Q name params body scope clos) :
    wpAny M A (do
      let fd : FuncData := { name, qualname := QLAM, params, body := .expr body, scope, globals := env.globals, closure := clos, closureTuple := ctv,
                             code := ← functionCode env pos firstLine name QLAM params scope (.expr body), builtins := ← builtinsFor env.globals env.builtins,
                             defaults := .none, kwdefaults := .none, annotations := none, pyModule := (← nsGet env.globals "__name__").getD .none,
                             doc := ← (pure .none : Sem Value) }
      newObj (.type "function") (.func fd)) Q E s := by
  obtain ⟨mg, hg, bm, ob, hbm, hne0, _, hneP, hbo, hcls, hdict, hdata⟩ := T.main _ g.inn
  obtain ⟨ps, ⟨hP, ht⟩, htab⟩ := g.tab
  have C : CodeHd s.heap 164 TAB := codeHd_of_K g.inn T.code
  have hgP : mainGlobals ≠ TAB := by decide
  rw [hge]
  cases hf : codeAmong pos ps.toList with
  | some cv =>
    obtain ⟨c, oc, rfl, hoc, hcc, hcr⟩ := htab pos cv hf
    refine wpAny_bind (wpAny_functionCode_hit hcode (C.code hP ht) hf ?_)
    refine wpAny_bind (wpAny_builtinsFor hg hbm hne0 hbo hcls hdict hdata ?_)
    refine wpAny_bind (wpAny_nsGet hg ?_)
    refine wpAny_bind (wpAny_pure (wpAny_newObj_type ?_ (by size_fits)))
    exact h _ s.toks s.heap.objs.size _ c oc _ ctv (x0.push _) (g.push _) (x0.none (fresh_none _)) (Heap.get?_push_size _ rfl) rfl (Heap.get?_push_of_some _ hoc) hcc (hcr.keeps fun b o e => Heap.get?_push_of_some _ e) rfl
  | none =>
    refine wpAny_bind (wpAny_functionCodeX hcode (C.code hP ht) (C.tab hP) hf fun c' h' tk hx hge' hlt _ hrec htb hnew => ?_)
    have hg' := hg.extBut hx hgP
    refine wpAny_bind (wpAny_builtinsFor hg' hbm hne0 (hx _ _ hneP hbo) hcls hdict hdata ?_)
    refine wpAny_bind (wpAny_nsGet hg' ?_)
    refine wpAny_bind (wpAny_pure (wpAny_newObj_type ?_ (by size_fits)))
    obtain ⟨P', _, _, ⟨oc, vs, hoc, hcc, hod, _⟩, _⟩ := hnew
    have htb2 := htb.2
    have xx : Ext s.heap h' := by
      intro b o e
      by_cases hb : b = TAB
      · subst hb
        rw [hP] at e; cases e
        exact .inr ⟨rfl, ps, _, rfl, htb2⟩
      · exact .inl (hx b o hb e)
    have g' : Good K h' := by
      refine ⟨fun a o e => hx a o (fun q => by rw [q, T.tab] at e; cases e) (g.inn a o e), _, ⟨htb2, ?_⟩, fun pos' c hc => ?_⟩
      · rw [Array.toList_append]; exact TriplesOk_snoc _ _ _ _ ht
      · rw [Array.toList_append] at hc
        rcases codeAmong_app ht hc with q | q
        · obtain ⟨a, o, h1, h2, h3, h4⟩ := htab pos' c q
          have hne : a ≠ TAB := fun z => by rw [z, hP] at h2; cases h2; cases h3
          refine ⟨a, o, h1, hx _ _ hne h2, h3, ?_⟩
          obtain ⟨a', o', vs', t', e1, e2, e3, e4⟩ := h4
          rw [h1] at e1; cases e1
          exact ⟨a, o', vs', t', h1, hx _ _ hne e2, e3, e4⟩
        · exact ⟨c', oc, q, hoc, hcc, by rw [q]; exact hrec⟩
    exact h _ tk h'.objs.size _ c' oc _ ctv ((x0.trans xx).push _) (g'.push _) ((x0.trans xx).none (fresh_none _)) (Heap.get?_push_size _ rfl) rfl (Heap.get?_push_of_some _ hoc) hcc (hrec.keeps fun b o e => Heap.get?_push_of_some _ e) rfl

theorem lam_make (T : LamTop K) (hcl : closureFor scope env = pure clos) (hge : env.globals = mainGlobals) (hcode : env.code = .ref 164) (g : Good K s.heap) (h : LamOut K s.heap s Q name params body scope clos) :
    wpAny M A (makeFunction name QLAM params (.expr body) scope env [] [] [] pos firstLine) Q E s := by
  rw [makeFunction_eq]
  simp only [List.zip_nil_right, List.filterMap_nil, List.isEmpty_nil, if_true, pure_bind]
  unfold makeTail
  rw [hcl]
  refine wpAny_bind (wpAny_pure ?_)
  cases clos with
  | nil =>
    simp only [List.isEmpty_nil, if_true]
    refine wpAny_bind (wpAny_pure ?_)
    exact lam_rest T (Ext.refl _) hge hcode g .none h
  | cons q r =>
    simp only [List.isEmpty_cons, Bool.false_eq_true, if_false]
    refine wpAny_bind (wpAny_newTextTuple ?_)
    exact lam_rest (s := { s with heap := s.heap.push { cls := .type "tuple", data := .seq (((q :: r).mergeSort fun a b => a.1.cps.toList ≤ b.1.cps.toList).map (Value.ref ·.2)).toArray } }) T (ext_push _ _) hge hcode (g.push _) _ h
end
end Mine
namespace Mine
open PySem PySem.Spec PySem.Calls PySem.W PyProof.Rows
open PySem.Builtin PySem.Builtin.Str PySem.Builtin.ObjectAttr

section
variable {w : World} {K K' : Frag} {l : Nat}

/-- a lambda is called -/
theorem lam_call (hlim : ∀ h, Good K' h → h.NoLimit) {f c : Addr} {fo oc : Obj} {name : Str} {params : Arguments} {body : Expr} {scope : Scope} {clos : List (Str × Addr)} {pm ctv : Value} (hf : K'.lookup f = some fo) (hfd : fo.data = .func (kla_fn name QLAM params body scope clos pm (.ref c) ctv))
    (hc : K'.lookup c = some oc) (hcr : ∀ h : Heap, h.get? c = some oc → h.CodeRec (.ref c) QLAM) (hco : scope.isCoroutine = false) (hgen : scope.isGenerator = false) (hk : scope.kind = .function) (hnd : nodupN scope.names = true)
    {x : Str} {u : V} {b : Bool} {ρc : Rho} (hbind : ∀ fd : FuncData, fd = kla_fn name QLAM params body scope clos pm (.ref c) ctv → ∀ v, bindArgs fd ⟨[v], []⟩ = pure [(x, v)]) (hx : isOwnB scope.names x = true) (hu : notOwn u = true)
    (cap : ∀ y v, ρc.lookup y = some v → scope.names.lookup y = some .free ∧ ∃ ca co val, clos.lookup y = some ca ∧ K'.lookup ca = some co ∧ co.cls = .type "cell" ∧ co.data = .cell (some val) ∧ ∀ h, Good K' h → RV h (fun _ => True) v val)
    (hfree : ∀ y, scope.names.lookup y = some .free → ∃ ca, clos.lookup y = some ca) (hr : Ev w K' l scope.names ((x, u) :: ρc) body (.d (.bool b))) : CallOk w K' (l + 1) (.fn (.ref f)) [u] (.d (.bool b)) := by
  refine ⟨fun A s P Q E fv g rf hq => ?_, fun A s P Q E fv vals ro g fr rf ra out => ?_⟩
  · rw [show fv = .ref f from rf]
    unfold keeperOf
    refine wpAny_bind (wpAny_load (g.inn _ _ hf) ?_)
    rw [hfd]; exact wpAny_pure (hq _)
  · rw [show fv = .ref f from rf]
    cases ra with
    | cons r1 r2 =>
    cases r2
    rename_i val
    refine wpAny_call ?_
    refine kla_callFunE (by have := ro.depth; show A.depth < 1000; omega) (g.inn _ _ hf) hfd hco hgen rfl (hcr _ (g.inn _ _ hc)) ?_
    rw [hbind _ rfl]
    refine wpAny_pure ?_
    have hN : ∀ p ∈ ([(x, val)] : List (Str × Value)), OwnName scope p.1 := by
      intro p m
      rw [List.mem_singleton.mp m]
      exact isOwnB_iff hx
    refine newEnv_sound (s := s) hk hN fun cells h2 tk2 NF => ?_
    refine ⟨hlim h2 (g.keep NF.old), ?_⟩
    refine kla_codeExpr ?_
    generalize hE : newEnv scope s.heap.objs.size _ cells _ (some f) _ none _ = env at NF ⊢
    have e1 : env.scope = scope := by rw [← hE]; rfl
    have e2 : env.globals = mainGlobals := by rw [← hE]; rfl
    have e3 : env.builtins = builtinsNs := by rw [← hE]; rfl
    have ek : ∀ x, env.kindOf x = scope.names.lookup x := fun x => by unfold Env.kindOf; rw [e1]
    have hclos : ∀ y, scope.names.lookup y = some .free → env.cells.lookup y = clos.lookup y := fun y hy => NF.clos y fun m => by
      have := nodup_mem hnd m
      rw [hy] at this; cases this
    have xx : Ext s.heap h2 := .of_keep NF.old
    have g2 : Good K' h2 := g.keep NF.old
    have ok : EnvOk env scope.names := by
      refine ⟨by rw [e1]; exact hk, e2, e3, fun y hy => (ek y).trans hy, fun y hy => ?_⟩
      rcases hy with hy | hy
      · obtain ⟨c, o, h1', _⟩ := NF.frame.cell y (.inr hy) ((ek y).trans hy)
        exact ⟨.inl ((ek y).trans hy), c, h1'⟩
      · obtain ⟨ca, hca⟩ := hfree y hy
        exact ⟨.inr ((ek y).trans hy), ca, (hclos y hy).trans hca⟩
    have er : EnvRel env ((x, u) :: ρc) h2 (fun _ => True) := by
      intro y v hy
      rw [List.lookup_cons] at hy
      cases q : y == x with
      | true =>
        rw [q] at hy
        have q := eq_of_beq q
        subst q
        cases hy
        exact ⟨val, NF.frame.nameIs (isOwnB_iff hx) (if_pos rfl), (RV.mono (fun _ _ => trivial) r1).ext xx⟩
      | false =>
        rw [q] at hy
        obtain ⟨hfr, ca, co, v', h1, h3, h4, h5, h6⟩ := cap y v hy
        exact ⟨v', .inr ⟨.inr ((ek y).trans hfr), ca, co, (hclos y hfr).trans h1, g2.inn _ _ h3, h4, h5⟩, h6 h2 g2⟩
    refine hr (A.deeper env) { s with heap := h2, toks := tk2 } (fun _ => True) _ _ env (ro.deeper env) g2 (fun _ _ => trivial) ok er fun h3 tk3 v3 x3 g3 r3 => ?_
    have hv := Rd.bool_inv r3
    subst hv
    exact out h3 tk3 _ (xx.trans x3) g3 (Rd.bool _)

theorem FnAt.sub {a : Addr} {fd : FuncData} {body : List Stmt} (k : Sub K K') (F : FnAt K a fd body) : FnAt K' a fd body :=
  ⟨let ⟨o, h1, h2⟩ := F.obj; ⟨o, k.1 _ _ h1, h2⟩, F.co, F.gen, F.kind, F.body, F.globals, F.builtins, let ⟨c, oc, vs, t, h1, h2, h3, h4⟩ := F.code; ⟨c, oc, vs, t, h1, k.1 _ _ h2, h3, h4⟩, F.free, fun h g => F.limit h (g.sub k)⟩

theorem lam_item (T : LamTop K) {A : Around} {s : Shared} {P : Addr → Prop} {Q : Value → Shared → Prop} {E : Value → Shared → Prop} {env : Env} {sc : Sc} {ρ : Rho}
    (ro : Room (l + 2) A) (g : Good K s.heap) (fr : FreshOk P s.heap) (ok : EnvOk env sc) (er : EnvRel env ρ s.heap P) (hcode : env.code = .ref 164) (hq : env.qual ++ ("<lambda>" : Str) = QLAM)
    {fn pl : Str} {fa : Addr} {fd : FuncData} {fbody : List Stmt} (F : FnAt K fa fd fbody) {x1 x2 : Str} (hsb : PlainBind fd [x1, x2]) (hsd : nodupS [x1, x2] = true) (hso : isOwnB fd.scope.names x1 = true ∧ isOwnB fd.scope.names x2 = true)
    {p1 p2 lp cp : Pos} {params : Arguments} {lbody : Expr} {scope : Scope} (hfn : Ev w K l sc ρ (.Name fn p1) (.fn (.ref fa))) {ds : List PyData} (hpl : Ev w K l sc ρ (.Name pl p2) (.d (.list ds)))
    (hdef : ∀ env, defaultsOf params env = ([], [])) (hco : scope.isCoroutine = false) (hgen : scope.isGenerator = false) (hk : scope.kind = .function) (hnd : nodupN scope.names = true) (hfo : freeOk scope.names sc = true)
    {x : Str} (hbind : ∀ fd : FuncData, fd.params = params → fd.defaults = .none → fd.kwdefaults = .none → ∀ v, bindArgs fd ⟨[v], []⟩ = pure [(x, v)]) (hx : isOwnB scope.names x = true)
    {pr : V → Bool → Prop} (hp : ∀ K', Sub K K' → ∀ u b, pr u b → notOwn u = true ∧ Ev w K' l scope.names ((x, u) :: innerRho scope.names ρ) lbody (.d (.bool b)))
    {ow : List (Str × Bool)} {r : PyData} (hr : ∀ f K', Sub K K' → (∀ u b, pr u b → CallOk w K' (l + 1) (.fn (.ref f)) [u] (.d (.bool b))) → Bk w K' (l + 1) fd.scope.names ow [(x1, .d (.list ds)), (x2, .fn (.ref f))] fbody (.ret (.d r)))
    (out : Out K P (.d r) s Q) : wpAny (model prog w) A (eval (.Call (.Name fn p1) [.Name pl p2, .Lambda params lbody scope lp] [] cp) env) Q E s := by
  have ro0 : Room l A := ro.le (by omega)
  rw [arm_eval_Call_Name']
  refine wpAny_bind (hfn A s P _ E env ro0 g fr ok er fun h1 tk1 u1 x1' g1 r1 => ?_)
  rw [show u1 = .ref fa from r1]
  rw [show (backToKw cp (keywordEach [] env)) = [] from rfl]
  refine callWith_gen rfl ?_
  refine wpAny_items_cons ?_ rfl
  refine hpl A { s with heap := h1, toks := tk1 } P _ E env ro0 g1 (fr.ext x1') ok (er.ext x1') fun h2 tk2 u2 x2' g2 r2 => ?_
  refine wpAny_items_cons ?_ rfl
  refine kla_eval (hdef env) ?_
  have h12 := x1'.trans x2'
  have hfree : ∀ y, (y, NameKind.free) ∈ scope.names → ∃ c, env.cells.lookup y = some c := fun y m => by
    have h := List.all_eq_true.mp hfo _ m
    have : sc.lookup y = some .cell ∨ sc.lookup y = some .free := by simpa using h
    exact (ok.cell y this).2
  obtain ⟨clos, hcl, hcl2⟩ := closure_sound (scope := scope) (env := env) hfree
  rw [hq]
  refine lam_make (s := { s with heap := h2, toks := tk2 }) T hcl ok.globals hcode g2 ?_
  intro h3 tk3 f fo c oc pm ctv x3 g3 hnew hf hfd hc hcc hcr hfc
  refine wpAny_items_nil ⟨fun Q' hQ' => ?_, ?_⟩
  · obtain ⟨o, ho, hd⟩ := F.obj
    unfold keeperOf
    refine wpAny_bind (wpAny_load (g3.inn _ _ ho) ?_)
    rw [hd]; exact wpAny_pure (hQ' _)
  · have x13 := h12.trans x3
    have k3 : Sub K (frozen h3) := frozen_sub g3 T.tab
    have t3 := g3.tab
    have hTAB : ∀ {a : Addr} {o : Obj}, h3.get? a = some o → o.cls ≠ .none → (frozen h3).lookup a = some o := fun {a o} e hc => by
      rw [frozen_lookup, if_neg fun q => ?_]
      · exact e
      · obtain ⟨vs, e', _⟩ := t3
        rw [q, e'.1] at e; cases e; exact hc rfl
    have er3 := er.ext x13
    have LC : ∀ u b, pr u b → CallOk w (frozen h3) (l + 1) (.fn (.ref f)) [u] (.d (.bool b)) := by
      intro u b hub
      obtain ⟨hown, hev⟩ := hp _ k3 u b hub
      refine lam_call (K' := frozen h3) (fun h gg => T.limit h (gg.sub k3)) (hTAB hf (by rw [hfc]; exact fun e => nomatch e)) hfd (hTAB hc (by rw [hcc]; exact fun e => nomatch e)) ?_ hco hgen hk hnd (ρc := innerRho scope.names ρ) ?_ hx hown ?_ ?_ hev
      · obtain ⟨c', o', vs', t', e1, e2, e3, e4⟩ := hcr
        cases e1
        rw [hc] at e2; cases e2
        exact fun h e => ⟨c, _, vs', t', rfl, e, e3, e4⟩
      · intro fd' e v
        exact hbind fd' (by rw [e]) (by rw [e]) (by rw [e]) v
      · intro y v hy
        obtain ⟨hy1, hy2⟩ := inner_lookup hy
        refine ⟨hy1, ?_⟩
        have hm : (y, NameKind.free) ∈ scope.names := lookup_mem hy1
        obtain ⟨val, nm, rv⟩ := er3 y v hy2
        have hcl3 := hcl2 y hm
        have h := List.all_eq_true.mp hfo _ hm
        have hsc : sc.lookup y = some .cell ∨ sc.lookup y = some .free := by simpa using h
        have hkind := (ok.cell y hsc).1
        rcases nm with ⟨q, _⟩ | ⟨_, ca, co, q1, q2, q3, q4⟩
        · rcases hkind with z | z <;> rw [q] at z <;> cases z
        · refine ⟨ca, co, val, hcl3.trans q1, hTAB q2 (by rw [q3]; exact fun e => nomatch e), q3, q4, fun h gg => ?_⟩
          exact RV.keepC (frozen_keepC gg t3) (RV.mono (fun _ _ => trivial) rv)
      · intro y hy
        have hm : (y, NameKind.free) ∈ scope.names := lookup_mem hy
        obtain ⟨ca, hca⟩ := hfree y hm
        exact ⟨ca, (hcl2 y hm).trans hca⟩
    have CO := fn_call (F.sub k3) (ow := ow) (vs := [.d (.list ds), .fn (.ref f)]) (ρ := [(x1, .d (.list ds)), (x2, .fn (.ref f))]) (bind_plain (ρ := [(x1, .d (.list ds)), (x2, .fn (.ref f))]) hsb) hsd (by simp only [List.all_cons, List.all_nil, Bool.and_true, notOwn, hso.1, hso.2]) (hr f _ k3 LC)
    refine CO.call A { s with heap := h3, toks := tk3 } P _ E (.ref fa) [u2, .ref f] ro (frozen_good t3) (fr.ext x13) rfl (.cons (r2.ext x3) (.cons rfl .nil)) fun h4 tk4 v4 x4 g4 r4 => ?_
    exact out h4 tk4 v4 (x13.trans x4) (g4.sub k3) r4
end
end Mine
namespace Mine
open PySem PySem.Spec PySem.Calls PySem.W PyProof.Rows
open PySem.Builtin PySem.Builtin.Str PySem.Builtin.ObjectAttr

section
variable {w : World} {K : Frag} {l : Nat}
def ItemOk (w : World) (K : Frag) (l : Nat) (sc : Sc) (ρ : Rho) (c : Expr) (r : PyData) : Prop :=
  NotStar c ∧ ∀ (A : Around) (s : Shared) (P : Addr → Prop) (Q : Value → Shared → Prop) (E : Value → Shared → Prop) (env : Env), Room l A → Good K s.heap → FreshOk P s.heap → EnvOk env sc → EnvRel env ρ s.heap P →
    env.code = .ref 164 → env.qual ++ ("<lambda>" : Str) = QLAM → Out K P (.d r) s Q → wpAny (model prog w) A (eval c env) Q E s

theorem asked_call {fa : Addr} {fd : FuncData} {st : Stmt} {c1 c2 c3 : Expr} {lp rp : Pos} (F : FnAt K fa fd [st, .Return (some (.List [c1, c2, c3] lp)) rp]) (hcode : fd.code = .ref 164) (hq : (fd.qualname ++ (".<locals>." : Str)) ++ ("<lambda>" : Str) = QLAM)
    {ρ ρ' : Rho} (hb : PlainBind fd (ρ.map (·.1))) (hnd : nodupS (ρ.map (·.1)) = true) (hown : ρ.all (fun p => isOwnB fd.scope.names p.1 && notOwn p.2) = true)
    (hst : St w K l fd.scope.names [] ρ st (.nx ρ')) {r1 r2 r3 : PyData} (h1 : ItemOk w K l fd.scope.names (frz ρ') c1 r1) (h2 : ItemOk w K l fd.scope.names (frz ρ') c2 r2) (h3 : ItemOk w K l fd.scope.names (frz ρ') c3 r3) :
    CallOk w K (l + 1) (.fn (.ref fa)) (ρ.map (·.2)) (.d (.list [r1, r2, r3])) := by
  obtain ⟨o, ho, hd⟩ := F.obj
  refine ⟨fun A s P Q E fv g rf hq => ?_, fun A s P Q E fv vals ro g fr rf ra out => ?_⟩
  · rw [show fv = .ref fa from rf]
    unfold keeperOf
    refine wpAny_bind (wpAny_load (g.inn _ _ ho) ?_)
    rw [hd]; exact wpAny_pure (hq _)
  · rw [show fv = .ref fa from rf]
    refine wpAny_call ?_
    refine enter_fn (ow := []) (P := P) (PC := P) (X := fun _ => False) F (bind_plain hb) hnd hown ro g fr (fun _ p => p) ra ?_
    intro C h2' tk2 f E' c ro2 hPr hZ hPCe hcq S x2 hM
    refine wpAny_execs_cons (hst C _ { s with heap := h2', toks := tk2 } _ f _ _ c ro2 S ?_)
    intro h3' tk3 P3 f3 S3 k3
    refine wpAny_execs_cons ?_
    obtain ⟨P4, k4, S4⟩ := S3.freezeAll
    have code : C.env.code = .ref 164 := hcq.1.trans hcode
    have qual : C.env.qual ++ ("<lambda>" : Str) = QLAM := by rw [hcq.2]; exact hq
    have env := c.env
    refine wpAny_Return_some (wpAny_List ?_)
    refine wpAny_items_cons ?_ (h1.1 _ _)
    refine h1.2 _ { s with heap := h3', toks := tk3 } P4 _ _ C.env ro2 (c.k ▸ S4.good) S4.fresh env S4.envRel code qual fun h5 tk5 v1 x5 g5 q1 => ?_
    have S5 := S4.ext x5 (c.k ▸ g5)
    refine wpAny_items_cons ?_ (h2.1 _ _)
    refine h2.2 _ { s with heap := h5, toks := tk5 } P4 _ _ C.env ro2 g5 S5.fresh env S5.envRel code qual fun h6 tk6 v2 x6 g6 q2 => ?_
    have S6 := S5.ext x6 (c.k ▸ g6)
    refine wpAny_items_cons ?_ (h3.1 _ _)
    refine h3.2 _ { s with heap := h6, toks := tk6 } P4 _ _ C.env ro2 g6 S6.fresh env S6.envRel code qual fun h7 tk7 v3 x7 g7 q3 => ?_
    have S7 := S6.ext x7 (c.k ▸ g7)
    refine wpAny_items_nil ⟨by simp; exact short_line (n := 3) rfl, ?_⟩
    have xx := ext_push h7 { cls := .type "list", data := .seq #[v1, v2, v3] }
    have fin : RV (h7.push { cls := .type "list", data := .seq #[v1, v2, v3] }) P (.d (.list [r1, r2, r3])) (.ref h7.objs.size) := by
      have q : Rd (h7.push { cls := .type "list", data := .seq #[v1, v2, v3] }) P4 (.list [r1, r2, r3]) (.ref h7.objs.size) :=
        Rd.list ⟨_, Heap.get?_push_size _ rfl, rfl, _, rfl⟩ (S7.fresh _ (fresh_none _)) (RdAll.cons (((show Rd h5 P4 r1 v1 from q1).ext (x6.trans x7)).ext xx) (RdAll.cons (((show Rd h6 P4 r2 v2 from q2).ext x7).ext xx) (RdAll.cons ((show Rd h7 P4 r3 v3 from q3).ext xx) RdAll.nil)))
      exact q.mono fun b p => hPCe ▸ S7.sub b p
    have hall : Ext s.heap (h7.push { cls := .type "list", data := .seq #[v1, v2, v3] }) := by
      refine Ext.trans ?_ xx
      intro b o q
      exact S7.holds b o (by rw [hPr]; exact ⟨q, fun z => z⟩)
    exact out _ tk7 _ hall (g7.push _) fin
end
end Mine
namespace Mine
open PySem PySem.Spec PySem.Calls
open PySem.Builtin PySem.Builtin.Str

theorem ofString_inj {a b : String} : (Str.ofString a = Str.ofString b) ↔ a = b := by
  constructor
  · intro h
    rw [Str.ofString_eq_toList, Str.ofString_eq_toList] at h
    have h1 : (a.toList.map Char.toNat).toArray = (b.toList.map Char.toNat).toArray := by injection h
    have h2 : a.toList.map Char.toNat = b.toList.map Char.toNat := by
      have := congrArg Array.toList h1; simpa using this
    have inj : ∀ x y : List Char, x.map Char.toNat = y.map Char.toNat → x = y := by
      intro x
      induction x with
      | nil => intro y e; cases y with | nil => rfl | cons _ _ => cases e
      | cons c cs ih =>
        intro y e
        cases y with
        | nil => cases e
        | cons d ds =>
          simp only [List.map_cons, List.cons.injEq] at e
          rw [Char.toNat_inj.mp e.1, ih ds e.2]
    exact String.toList_inj.mp (inj _ _ h2)
  · intro h; rw [h]
/-! ## texts as rows of numbers -/
noncomputable def S (l : List Nat) : Str := ⟨l.toArray⟩
noncomputable def tx (l : List Nat) : PyData := .str (S l)
theorem S_len {l : List Nat} : (S l).length = l.length := by simp [S, Str.length]
theorem S_app {a b : List Nat} : S a ++ S b = S (a ++ b) := by
  show Str.mk (a.toArray ++ b.toArray) = _
  simp [S]
theorem S_cps {l : List Nat} : (S l).cps.toList = l := by simp [S]
theorem S_inj {a b : List Nat} : S a = S b ↔ a = b := by
  constructor
  · intro h
    have := congrArg (fun x => x.cps.toList) h
    simpa [S] using this
  · intro h; rw [h]
theorem S_beq {a b : List Nat} : (S a == S b) = (a == b) := by rw [Bool.eq_iff_iff, beq_iff_eq, beq_iff_eq, S_inj]
theorem short_of {n : Nat} (h : n ≤ 1000000) : short n = true := Nat.ble_eq_true_of_le h
theorem small_of {i : Int} (h : -1073741824 < i) (h' : i < 1073741824) : small i = true := by simp [small, h, h']

section
variable {x y : Int} {a b : List Nat} {xs ys : List PyData}
/-! ## what may be compared -/
noncomputable def D (k : Nat) (d : PyData) : Prop := d.canLay0 = true ∧ d.depth ≤ k
noncomputable def okC (c : Nat) : Bool := Nat.ble c 127
theorem D.ok {d : PyData} {k : Nat} (h : D k d) (hk : k ≤ 64) : eqOk d = true := by
  unfold eqOk
  rw [h.1, Nat.ble_eq_true_of_le (Nat.le_trans h.2 hk)]; rfl
theorem D.int {k : Nat} : D k (.int x) := ⟨rfl, Nat.zero_le _⟩
theorem D.bool {k : Nat} {c : Bool} : D k (.bool c) := ⟨rfl, Nat.zero_le _⟩
theorem D.tx {k : Nat} (h : a.all okC = true) : D k (tx a) := by
  refine ⟨?_, Nat.zero_le _⟩
  show PyData.strOk (S a) = true
  unfold PyData.strOk S
  rw [← Array.all_toList, List.all_eq_true]
  intro c m
  have := List.all_eq_true.mp h c (by simpa using m)
  have := Nat.le_of_ble_eq_true this
  simp; omega
theorem canAll : ∀ {xs : List PyData}, (∀ x ∈ xs, x.canLay0 = true) → PyData.canLayAll0 xs = true
  | [], _ => rfl
  | x :: xs, h => by
    rw [PyData.canLayAll0, h x List.mem_cons_self, canAll fun y m => h y (List.mem_cons_of_mem _ m)]; rfl
theorem depAll {k : Nat} : ∀ {xs : List PyData}, (∀ x ∈ xs, x.depth ≤ k) → PyData.depthAll xs ≤ k
  | [], _ => Nat.zero_le _
  | x :: xs, h => by
    rw [PyData.depthAll]
    exact Nat.max_le.mpr ⟨h x List.mem_cons_self, depAll fun y m => h y (List.mem_cons_of_mem _ m)⟩
theorem D.list {k : Nat} (h : ∀ x ∈ xs, D k x) : D (k + 1) (.list xs) := by
  refine ⟨?_, ?_⟩
  · rw [PyData.canLay0]; exact canAll fun x m => (h x m).1
  · rw [PyData.depth]; exact Nat.succ_le_succ (depAll fun x m => (h x m).2)
theorem D.tuple {k : Nat} (h : ∀ x ∈ xs, D k x) : D (k + 1) (.tuple xs) := by
  refine ⟨?_, ?_⟩
  · rw [PyData.canLay0]; exact canAll fun x m => (h x m).1
  · rw [PyData.depth]; exact Nat.succ_le_succ (depAll fun x m => (h x m).2)
theorem eqv_tx : PyData.eqv (tx a) (tx b) = (a == b) := by
  show (S a == S b) = _
  exact S_beq
theorem eqv_ints : ∀ {ns ms : List Int}, PyData.eqvAll (ns.map .int) (ms.map .int) = (ns == ms)
  | [], [] => rfl
  | [], _ :: _ => rfl
  | _ :: _, [] => rfl
  | n :: ns, m :: ms => by
    show (PyData.eqv (.int n) (.int m) && PyData.eqvAll (ns.map .int) (ms.map .int)) = _
    rw [eqv_ints]
    rw [Bool.eq_iff_iff]
    simp [PyData.eqv]
noncomputable def cutP (a : List Nat) (l u : Option Int) : List Nat := (a.drop (clipN a.length l 0)).take (clipN a.length u a.length - clipN a.length l 0)
theorem cut_hi {u : Int} (h : 0 ≤ u) : cutP a none (some u) = a.take u.toNat := by
  unfold cutP clipN
  simp only [List.drop_zero, Nat.sub_zero, show ¬ u < 0 from by omega, if_false]
  rcases Nat.lt_or_ge u.toNat a.length with h' | h'
  · congr 1; omega
  · rw [List.take_of_length_le h', List.take_of_length_le (by omega)]
theorem cut_lo {l : Int} (h : 0 ≤ l) : cutP a (some l) none = a.drop l.toNat := by
  unfold cutP clipN
  simp only [show ¬ l < 0 from by omega, if_false]
  rcases Nat.lt_or_ge l.toNat a.length with h' | h'
  · rw [show (max 0 (min l (a.length : Int))).toNat = l.toNat from by omega, List.take_of_length_le (by simp)]
  · rw [show (max 0 (min l (a.length : Int))).toNat = a.length from by omega, List.drop_eq_nil_of_le h', List.drop_eq_nil_of_le (Nat.le_refl _), List.take_nil]
end
/-! ## the text's bodies -/
noncomputable def fnBody : Stmt → List Stmt
  | .FunctionDef _ _ b _ _ _ _ _ _ _ => b
  | _ => []
noncomputable def fnSc : Stmt → Sc
  | .FunctionDef _ _ _ _ _ _ s _ _ _ => s.names
  | _ => []
noncomputable def topSt (n : Nat) : Stmt := (PySem.Challenge.pw_pe0211_01.main.body).getD n (.Pass ⟨0, 0, 0, 0⟩)
noncomputable def clsSt (n : Nat) : Stmt := match topSt 9 with
  | .ClassDef _ _ _ b _ _ _ _ _ _ _ => b.getD n (.Pass ⟨0, 0, 0, 0⟩)
  | s => s
end Mine
namespace Mine
open PySem PySem.Spec PySem.Calls PySem.W PyProof.Rows
open PySem.Builtin PySem.Builtin.Str

/-! ## the rules, closed (so that an `apply` does not look into the model) -/
section
variable (w : World) (K : Frag) (l : Nat) (sc : Sc) (ow : List (Str × Bool)) (ρ : Rho)
structure VE (e : Expr) (v : V) : Prop where
  h : Ev w K l sc ρ e v
structure VT (e : Expr) (b : Bool) : Prop where
  h : Tv w K l sc ρ e b
structure VS (st : Stmt) (r : Fl) : Prop where
  h : St w K l sc ow ρ st r
structure VB (body : List Stmt) (r : Fl) : Prop where
  h : Bk w K l sc ow ρ body r
structure GOk (x : Str) (v : V) : Prop where
  h : GlobOk K x v
structure AOk (o : V) (x : Str) (v : V) : Prop where
  h : AttrOk w K o x v
structure MOk (o : V) (x : Str) (vs : List V) (v : V) : Prop where
  h : MethOk w K l o x vs v
end
abbrev At (ρ : Rho) (x : Str) (v : V) : Prop := ρ.lookup x = some v
abbrev dbg : Str := Str.ofString "__debug__"
abbrev cld : Str := Str.ofString "__classdict__"
section
variable {w : World} {K : Frag} {l : Nat} {sc : Sc} {ow : List (Str × Bool)} {ρ : Rho} {e a b test c : Expr} {body orelse rest : List Stmt} {pos p q : Pos} {r : Fl} {v va vb vf u : V} {x y z : Str} {t : Bool} {i j k : Int} {vs us zs : List V} {st : Stmt}
theorem look_here : (setR x v ρ).lookup x = some v := by rw [lookup_setR, if_pos rfl]
theorem look_past (h : (y == x) = false) (k : ρ.lookup y = some u) : (setR x v ρ).lookup y = some u := by rw [lookup_setR, if_neg (ne_of_beq_false h)]; exact k
theorem lookc_here : List.lookup x ((x, v) :: ρ) = some v := List.lookup_cons_self
theorem lookc_past (h : (y == x) = false) (k : List.lookup y ρ = some u) : List.lookup y ((x, v) :: ρ) = some u := by rw [List.lookup_cons, h]; exact k
theorem look_inner {inner : Sc} (h : inner.lookup x = some .free) (k : ρ.lookup x = some v) : (innerRho inner ρ).lookup x = some v := by
  induction ρ with
  | nil => cases k
  | cons p r ih =>
    obtain ⟨y, u⟩ := p
    unfold innerRho at ih ⊢
    by_cases hy : x = y
    · subst hy
      rw [List.lookup_cons_self] at k
      rw [List.filter_cons_of_pos (by rw [h]; rfl), List.lookup_cons_self]; exact k
    · have hb : (x == y) = false := beq_false_of_ne hy
      rw [List.lookup_cons, hb] at k
      rw [List.filter_cons]
      split
      · rw [List.lookup_cons, hb]; exact ih k
      · exact ih k
theorem look_frz (k : ρ.lookup x = some v) (e : frzV v = u) : (frz ρ).lookup x = some u := by rw [lookup_frz, k]; exact congrArg some e
theorem frz_d {d : PyData} : frzV (.d d) = .d d := rfl
theorem frz_own {d : List PyData} : frzV (.own d) = .d (.list d) := rfl
theorem frz_fn {d : Value} : frzV (.fn d) = .fn d := rfl
theorem frz_ws {d : Str} : frzV (.ws d) = .ws d := rfl
theorem frz_wsl {d : List Str} : frzV (.wsl d) = .wsl d := rfl
theorem ve_int {k} : VE w K l sc ρ (.Constant (.int i) k pos) (.d (.int i)) := ⟨ev_int⟩
theorem ve_bool {k} : VE w K l sc ρ (.Constant (.bool t) k pos) (.d (.bool t)) := ⟨ev_bool⟩
theorem ve_c_dots {k} : VE w K l sc ρ (.Constant (.str (Str.ofString "...")) k pos) (.d (tx [46, 46, 46])) := ⟨ev_str⟩
theorem ve_c_nil {k} : VE w K l sc ρ (.Constant (.str (Str.ofString "")) k pos) (.d (tx [])) := ⟨ev_str⟩
theorem ve_c_sp {k} : VE w K l sc ρ (.Constant (.str (Str.ofString " ")) k pos) (.d (tx [32])) := ⟨ev_str⟩
theorem ve_c_tab {k} : VE w K l sc ρ (.Constant (.str (Str.ofString "\t")) k pos) (.d (tx [9])) := ⟨ev_str⟩
theorem ve_c_sp2 {k} : VE w K l sc ρ (.Constant (.str (Str.ofString "  ")) k pos) (.d (tx [32, 32])) := ⟨ev_str⟩
theorem ve_c_st {k} : VE w K l sc ρ (.Constant (.str (Str.ofString " \t")) k pos) (.d (tx [32, 9])) := ⟨ev_str⟩
theorem ve_c_ts {k} : VE w K l sc ρ (.Constant (.str (Str.ofString "\t ")) k pos) (.d (tx [9, 32])) := ⟨ev_str⟩
theorem ve_c_tsst {k} : VE w K l sc ρ (.Constant (.str (Str.ofString "\t  \t")) k pos) (.d (tx [9, 32, 32, 9])) := ⟨ev_str⟩
theorem ve_c_a {k} : VE w K l sc ρ (.Constant (.str (Str.ofString "a")) k pos) (.d (tx [97])) := ⟨ev_str⟩
theorem ve_c_b {k} : VE w K l sc ρ (.Constant (.str (Str.ofString "b")) k pos) (.d (tx [98])) := ⟨ev_str⟩
theorem ve_c_c {k} : VE w K l sc ρ (.Constant (.str (Str.ofString "c")) k pos) (.d (tx [99])) := ⟨ev_str⟩
theorem ve_c_ab {k} : VE w K l sc ρ (.Constant (.str (Str.ofString "ab")) k pos) (.d (tx [97, 98])) := ⟨ev_str⟩
theorem ve_name (h1 : (x == dbg) = false) (h2 : (x == cld) = false) (h : ρ.lookup x = some v) : VE w K l sc ρ (.Name x p) v := ⟨ev_name h1 h2 h⟩
theorem ve_glob (h1 : (x == dbg) = false) (hg : sc.lookup x = some .globalImplicit) (h : GOk K x v) : VE w K l sc ρ (.Name x p) v := ⟨ev_glob h1 hg h.h⟩
theorem ve_bin {op} (ha : VE w K l sc ρ a va) (hb : VE w K l sc ρ b vb) (h : BinR op va vb v) : VE w K l sc ρ (.BinOp a op b p) v := ⟨ev_bin ha.h hb.h h⟩
theorem ve_neg (ha : VE w K l sc ρ a (.d (.int i))) : VE w K l sc ρ (.UnaryOp .USub a p) (.d (.int (-i))) := ⟨ev_neg ha.h⟩
theorem ve_cmp {op} (hm : behindInMarks op b = false) (ha : VE w K l sc ρ a va) (hb : VE w K l sc ρ b vb) (h : CmpR op va vb t) : VE w K l sc ρ (.Compare a [op] [b] p) (.d (.bool t)) := ⟨ev_cmp hm ha.h hb.h h⟩
theorem ve_ifT (ht : VT w K l sc ρ test true) (h : VE w K l sc ρ a v) : VE w K l sc ρ (.IfExp test a b pos) v := ⟨ev_if ht.h h.h⟩
theorem ve_ifF (ht : VT w K l sc ρ test false) (h : VE w K l sc ρ b v) : VE w K l sc ρ (.IfExp test a b pos) v := ⟨ev_if ht.h h.h⟩
theorem ve_if (ht : VT w K l sc ρ test t) (h : VE w K l sc ρ (cond t a b) v) : VE w K l sc ρ (.IfExp test a b pos) v := ⟨ev_if ht.h h.h⟩
theorem ve_condT (h : VE w K l sc ρ a v) : VE w K l sc ρ (cond true a b) v := h
theorem ve_condF (h : VE w K l sc ρ b v) : VE w K l sc ρ (cond false a b) v := h
theorem ve_andT (ha : VE w K l sc ρ a (.d (.bool true))) (hb : VE w K l sc ρ b v) : VE w K l sc ρ (.BoolOp .And [a, b] p) v := ⟨ev_and ha.h (.bool _) (fun _ => hb.h) (fun q => nomatch q)⟩
theorem ve_andF (ha : VE w K l sc ρ a (.d (.bool false))) : VE w K l sc ρ (.BoolOp .And [a, b] p) (.d (.bool false)) := ⟨ev_and ha.h (.bool _) (fun q => nomatch q) (fun _ => rfl)⟩
theorem va_cons (hs : NotStar e) (h : VE w K l sc ρ e v) {es : List Expr} (q : ArgsR w K l sc ρ es vs) : ArgsR w K l sc ρ (e :: es) (v :: vs) := .cons hs h.h q
theorem ve_meth {args : List Expr} (hb : PlainBase a) (hp : (q.endLine == p.line) = true) (hn : Nat.ble args.length 20 = true) (ha : VE w K l sc ρ a va) (hv : ArgsR w K l sc ρ args vs) (h : MethR va x vs v) : VE w K l sc ρ (.Call (.Attribute a x q) args [] p) v := ⟨ev_meth hb hp hn ha.h hv h⟩
theorem ve_methW {args : List Expr} (hb : PlainBase a) (hp : (q.endLine == p.line) = true) (hn : Nat.ble args.length 20 = true) (ha : VE w K l sc ρ a va) (hv : ArgsR w K l sc ρ args vs) (h : MOk w K l va x vs v) : VE w K l sc ρ (.Call (.Attribute a x q) args [] p) v := ⟨ev_methW hb hp hn ha.h hv h.h⟩
theorem ve_call {args : List Expr} (hf : VE w K l sc ρ (.Name x q) vf) (hv : ArgsR w K l sc ρ args vs) (c : CallOk w K l vf vs v) : VE w K l sc ρ (.Call (.Name x q) args [] p) v := ⟨ev_call hf.h hv c⟩
theorem ve_attr (hb : PlainBase a) (ha : VE w K l sc ρ a va) (h : AOk w K va x v) : VE w K l sc ρ (.Attribute a x p) v := ⟨ev_attr hb ha.h h.h⟩
theorem vp_some {i} (h : VE w K l sc ρ e (.d (.int i))) : PartE w K l sc ρ (some e) (some i) := .some h.h
theorem ve_slice {lo hi : Option Expr} {i j} (ha : VE w K l sc ρ a va) (hl : PartE w K l sc ρ lo i) (hh : PartE w K l sc ρ hi j) (h : SliceR va i j v) : VE w K l sc ρ (.Subscript a (.Slice lo hi none q) p) v := ⟨ev_slice ha.h hl hh h⟩
theorem ve_sub (ha : VE w K l sc ρ a va) (hi : VE w K l sc ρ b (.d (.int k))) (h : SubR va k v) : VE w K l sc ρ (.Subscript a b p) v := ⟨ev_sub ha.h hi.h h⟩
theorem ve_list {elts : List Expr} (hs : short elts.length = true) (hv : ArgsR w K l sc ρ elts vs) (h : PackR vs v) : VE w K l sc ρ (.List elts p) v := ⟨ev_list hs hv h⟩
theorem ve_tuple2 {d1 d2 : PyData} {n : Nat} (h1 : VE w K l sc ρ a (.d d1)) (h2 : VE w K l sc ρ b (.d d2)) (n1 : NotStar a) (n2 : NotStar b) : VE w K l sc ρ (.Tuple [a, b] n p) (.d (.tuple [d1, d2])) :=
  ⟨ev_tuple (xs := [d1, d2]) rfl (.cons n1 h1.h (.cons n2 h2.h .nil))⟩
theorem ve_tuple3 {d1 d2 d3 : PyData} {n : Nat} (h1 : VE w K l sc ρ a (.d d1)) (h2 : VE w K l sc ρ b (.d d2)) (h3 : VE w K l sc ρ c (.d d3)) (n1 : NotStar a) (n2 : NotStar b) (n3 : NotStar c) : VE w K l sc ρ (.Tuple [a, b, c] n p) (.d (.tuple [d1, d2, d3])) :=
  ⟨ev_tuple (xs := [d1, d2, d3]) rfl (.cons n1 h1.h (.cons n2 h2.h (.cons n3 h3.h .nil)))⟩
theorem vt_not (h : VT w K l sc ρ a t) : VT w K l sc ρ (.UnaryOp .Not a p) (!t) := ⟨tv_not h.h⟩
theorem vt_cmp {op} (hm : behindInMarks op b = false) (ha : VE w K l sc ρ a va) (hb : VE w K l sc ρ b vb) (h : CmpR op va vb t) : VT w K l sc ρ (.Compare a [op] [b] p) t := ⟨tv_cmp hm ha.h hb.h h⟩
theorem vt_val (he : PlainTest e) (h : VE w K l sc ρ e v) (ht : TruthR v t) : VT w K l sc ρ e t := ⟨tv_val he h.h ht⟩
theorem vt_andT (ha : VT w K l sc ρ a true) (hb : VT w K l sc ρ b t) : VT w K l sc ρ (.BoolOp .And [a, b] p) t := ⟨tv_and ha.h (fun _ => hb.h)⟩
theorem vt_andF (ha : VT w K l sc ρ a false) : VT w K l sc ρ (.BoolOp .And [a, b] p) false := ⟨tv_and (y := false) ha.h (fun q => nomatch q)⟩
/-! statements -/
theorem vs_name (hn : NoSwap (.Name x p) e) (hx : isOwnB sc x = true) (hv : VE w K l sc ρ e v) (ho : notOwn v = true) : VS w K l sc ow ρ (.Assign [.Name x p] e pos) (.nx (setR x v ρ)) := ⟨st_name hn hx hv.h ho⟩
theorem vs_new {lp : Pos} (hx : isOwnB sc x = true) : VS w K l sc ow ρ (.Assign [.Name x p] (.List [] lp) pos) (.nx (setR x (.own []) ρ)) := ⟨st_new hx⟩
theorem vs_own {xs : List PyData} (hn : NoSwap (.Name x p) e) (hx : isOwnB sc x = true) (how : ow.lookup x = some false) (hfl : ρ.all (fun p => flatV p.2) = true) (hv : VE w K l sc ρ e (.d (.list xs))) (hxs : xs.all flatD = true) : VS w K l sc ow ρ (.Assign [.Name x p] e pos) (.nx (setR x (.own xs) ρ)) := ⟨st_own hn hx how hfl hv.h hxs⟩
theorem vs_tuple {px py tp : Pos} {k : Nat} {d1 d2 : PyData} (hs : ∀ line env, swapsWithSole [.Tuple [.Name x px, .Name y py] k tp] e line env = pure false) (hw : TwoSt x y (.Tuple [.Name x px, .Name y py] k tp) e)
    (hx : isOwnB sc x = true) (hy : isOwnB sc y = true) (hxy : (x == y) = false) (hv : VE w K l sc ρ e (.d (.tuple [d1, d2]))) : VS w K l sc ow ρ (.Assign [.Tuple [.Name x px, .Name y py] k tp] e pos) (.nx (setR x (.d d1) (setR y (.d d2) ρ))) := ⟨st_tuple hs hw hx hy hxy hv.h⟩
theorem vs_three {p1 p2 p3 : Pos} {d : PyData} (hw : ∀ env, swappedStores [.Name x p1, .Name y p2, .Name z p3] e env = pure none) (hx : isOwnB sc x = true) (hy : isOwnB sc y = true) (hz : isOwnB sc z = true) (hv : VE w K l sc ρ e (.d d)) (hf : flatD d = true) : VS w K l sc ow ρ (.Assign [.Name x p1, .Name y p2, .Name z p3] e pos) (.nx (setR z (.d d) (setR y (.d d) (setR x (.d d) ρ)))) := ⟨st_three hw hx hy hz hv.h hf⟩
theorem vs_aug {op : Operator} (hop : (op = .Add ∧ k = i + j) ∨ (op = .Sub ∧ k = i - j)) (hx : isOwnB sc x = true) (hcd : (x == cld) = false) (hi : ρ.lookup x = some (.d (.int i))) (hv : VE w K l sc ρ e (.d (.int j))) : VS w K l sc ow ρ (.AugAssign (.Name x p) op e pos) (.nx (setR x (.d (.int k)) ρ)) := ⟨st_aug hop hx hcd hi hv.h⟩
theorem vs_sub {sp : Pos} {xs : List PyData} {d : PyData} (hn : NoSwap (.Subscript (.Name x p) b sp) e) (how : ow.lookup x = some false) (hx : (x == cld) = false) (hd : (x == dbg) = false)
    (h : ρ.lookup x = some (.own xs)) (hv : VE w K l sc ρ e (.d d)) (hi : VE w K l sc ρ b (.d (.int k))) (h0 : 0 ≤ k) (hk : k < (xs.length : Int)) (hsh : short xs.length = true) : VS w K l sc ow ρ (.Assign [.Subscript (.Name x p) b sp] e pos) (.nx (setR x (.own (xs.set k.toNat d)) ρ)) := ⟨st_sub hn how hx hd h hv.h hi.h h0 hk hsh⟩
theorem vs_append {apos cp : Pos} {xs : List PyData} {d : PyData} (how : ow.lookup x = some true) (hx : (x == cld) = false) (hd : (x == dbg) = false) (hp : (apos.endLine == cp.line) = true) (h : ρ.lookup x = some (.own xs)) (hs : NotStar e) (hv : VE w K l sc ρ e (.d d)) (hsh : short xs.length = true) :
    VS w K l sc ow ρ (.Expr (.Call (.Attribute (.Name x p) (Str.ofString "append") apos) [e] [] cp) pos) (.nx (setR x (.own (xs ++ [d])) ρ)) := ⟨st_append how hx hd hp h (.cons hs hv.h .nil) hsh⟩
theorem vs_del {sp : Pos} {xs : List PyData} {n : Nat} (how : ow.lookup x = some false) (hx : (x == cld) = false) (hd : (x == dbg) = false) (h : ρ.lookup x = some (.own xs)) (hi : VE w K l sc ρ b (.d (.int k))) (hsh : short xs.length = true) (hsm : small k = true) (hj : seqIndex? k xs.length = some n) :
    VS w K l sc ow ρ (.Delete [.Subscript (.Name x p) b sp] pos) (.nx (setR x (.own (xs.eraseIdx n)) ρ)) := ⟨st_del how hx hd h hi.h hsh hsm hj⟩
theorem vs_ifT (ht : VT w K l sc ρ test true) (h : VB w K l sc ow ρ body r) : VS w K l sc ow ρ (.If test body orelse pos) r := ⟨st_if ht.h h.h⟩
theorem vs_ifF (ht : VT w K l sc ρ test false) (h : VB w K l sc ow ρ orelse r) : VS w K l sc ow ρ (.If test body orelse pos) r := ⟨st_if ht.h h.h⟩
theorem vs_if (ht : VT w K l sc ρ test t) (h : VB w K l sc ow ρ (cond t body orelse) r) : VS w K l sc ow ρ (.If test body orelse pos) r := ⟨st_if ht.h h.h⟩
theorem vb_condT {a b : List Stmt} (h : VB w K l sc ow ρ a r) : VB w K l sc ow ρ (cond true a b) r := h
theorem vb_condF {a b : List Stmt} (h : VB w K l sc ow ρ b r) : VB w K l sc ow ρ (cond false a b) r := h
theorem vs_return (hv : VE w K l sc (frz ρ) e v) : VS w K l sc ow ρ (.Return (some e) pos) (.ret v) := ⟨st_return hv.h⟩
theorem vs_break : VS w K l sc ow ρ (.Break pos) (.brk ρ) := ⟨st_break⟩
theorem vs_assert (ht : VT w K l sc ρ test true) : VS w K l sc ow ρ (.Assert test none pos) (.nx ρ) := ⟨st_assert ht.h⟩
theorem vb_nil : VB w K l sc ow ρ [] (.nx ρ) := ⟨bk_nil⟩
theorem vb_cons {ρ' : Rho} (h : VS w K l sc ow ρ st (.nx ρ')) (q : VB w K l sc ow ρ' rest r) : VB w K l sc ow ρ (st :: rest) r := ⟨bk_cons h.h q.h⟩
theorem vb_ret (h : VS w K l sc ow ρ st (.ret v)) : VB w K l sc ow ρ (st :: rest) (.ret v) := ⟨bk_ret h.h⟩
theorem vb_brk {ρ' : Rho} (h : VS w K l sc ow ρ st (.brk ρ')) : VB w K l sc ow ρ (st :: rest) (.brk ρ') := ⟨bk_brk h.h⟩
theorem vb_last (h : VS w K l sc ow ρ st r) : VB w K l sc ow ρ [st] r := by
  cases r with
  | nx => exact vb_cons h vb_nil
  | brk => exact vb_brk h
  | ret => exact vb_ret h
theorem call_at (c : CallOk w K l vf vs u) (h : u = v) : CallOk w K l vf vs v := h ▸ c
end
theorem bin_tx {a b : List Nat} (h : short a.length = true) (h' : short b.length = true) : BinR .Add (.d (tx a)) (.d (tx b)) (.d (tx (a ++ b))) := by
  unfold tx; rw [← S_app]; exact .addS (S_len.symm ▸ h) (S_len.symm ▸ h')
theorem len_tx (a : List Nat) : LenR (.d (tx a)) a.length := S_len (l := a) ▸ LenR.str (S a)
theorem slice_txR {a : List Nat} {l u : Option Int} (h : short a.length = true) : SliceR (.d (tx a)) l u (.d (tx (cutP a l u))) := by
  have e : tx (cutP a l u) = .str (sliceStr (S a) l u) := by rw [sliceStr_eq, S_len, S_cps]; rfl
  rw [e]; exact .str _ _ (S_len.symm ▸ h)
/-! ## loops by an invariant over what was read -/
section
variable {w : World} {K : Frag} {l : Nat} {sc : Sc} {ow : List (Str × Bool)} {iter : Expr} {body rest : List Stmt} {p pos : Pos} {α : Type} {st : Stmt} {x : Str}
/-- a block goes on to its end, in an environment of which J holds -/
def Nx (w : World) (K : Frag) (l : Nat) (sc : Sc) (ow : List (Str × Bool)) (ρ : Rho) (body : List Stmt) (J : Rho → Prop) : Prop := ∃ ρ', VB w K l sc ow ρ body (.nx ρ') ∧ J ρ'
theorem nx_nil {ρ : Rho} {J : Rho → Prop} (h : J ρ) : Nx w K l sc ow ρ [] J := ⟨ρ, vb_nil, h⟩
theorem nx_cons {ρ ρ' : Rho} {J : Rho → Prop} (h : VS w K l sc ow ρ st (.nx ρ')) (q : Nx w K l sc ow ρ' rest J) : Nx w K l sc ow ρ (st :: rest) J := let ⟨r, a, b⟩ := q; ⟨r, vb_cons h a, b⟩
theorem nx_ifl {ρ : Rho} {J : Rho → Prop} {test : Expr} {a b : List Stmt} {t : Bool} (ht : VT w K l sc ρ test t) (h : Nx w K l sc ow ρ (cond t a b) J) : Nx w K l sc ow ρ [.If test a b pos] J := let ⟨r, c, d⟩ := h; ⟨r, vb_last (vs_if ht c), d⟩
theorem nx_condT {ρ : Rho} {J : Rho → Prop} {a b : List Stmt} (h : Nx w K l sc ow ρ a J) : Nx w K l sc ow ρ (cond true a b) J := h
theorem nx_condF {ρ : Rho} {J : Rho → Prop} {a b : List Stmt} (h : Nx w K l sc ow ρ b J) : Nx w K l sc ow ρ (cond false a b) J := h
def ForStep (w : World) (K : Frag) (l : Nat) (sc : Sc) (ow : List (Str × Bool)) (x : Str) (body : List Stmt) (Inv : List α → Rho → Prop) (f : α → V) (xs : List α) : Prop :=
  ∀ pre a post ρ, xs = pre ++ a :: post → Inv pre ρ → Nx w K l sc ow (setR x (f a) ρ) body (Inv (pre ++ [a]))
theorem bind_own (h : isOwnB sc x = true) {v : V} : ∀ q ∈ [(x, v)], isOwnB sc q.1 = true := fun q m => by rw [List.mem_singleton.mp m]; exact h
theorem forR_pre {Inv : List α → Rho → Prop} {f : α → V} {xs : List α} (hx : isOwnB sc x = true) (hs : ForStep w K l sc ow x body Inv f xs) (post : List α) : ∀ (pre : List α) (ρ : Rho), xs = pre ++ post → Inv pre ρ →
    ∃ ρ', ForR w K l sc ow (.Name x p) body (post.map f) ρ (.nx ρ') ∧ Inv xs ρ' := by
  induction post with
  | nil => intro pre ρ e i; exact ⟨ρ, .nil, by rw [e, List.append_nil]; exact i⟩
  | cons a post ih =>
    intro pre ρ e i
    obtain ⟨ρ1, h3, h4⟩ := hs pre a post ρ e i
    obtain ⟨ρ', h5, h6⟩ := ih (pre ++ [a]) ρ1 (by rw [e, List.append_assoc]; rfl) h4
    exact ⟨ρ', .next (.name _ _ _) (bind_own hx) h3.h h5, h6⟩
/-- a loop without break or return, then the rest -/
theorem vs_for (Inv : List α → Rho → Prop) (f : α → V) (xs : List α) {ρ ρ0 : Rho} {v : V} {items : List V} (hs : PlainIter iter) (he : ρ0 = ρ ∨ ρ0 = frz ρ) (hx : isOwnB sc x = true) (hv : VE w K l sc ρ0 iter v) (ho : notOwn v = true) (hi : ItemsR v items) (hm : items = xs.map f)
    (h0 : Inv [] ρ0) (hstep : ForStep w K l sc ow x body Inv f xs) : ∃ ρ', VS w K l sc ow ρ (.For (.Name x p) iter body [] pos) (.nx ρ') ∧ Inv xs ρ' := by
  subst hm
  obtain ⟨ρ', h1, h2⟩ := forR_pre hx hstep xs [] ρ0 rfl h0
  exact ⟨ρ', ⟨st_for hs he hv.h ho hi h1⟩, h2⟩
theorem vb_for (Inv : List α → Rho → Prop) (f : α → V) (xs : List α) {ρ ρ0 : Rho} {v : V} {items : List V} {r : Fl} (hs : PlainIter iter) (he : ρ0 = ρ ∨ ρ0 = frz ρ) (hx : isOwnB sc x = true) (hv : VE w K l sc ρ0 iter v) (ho : notOwn v = true) (hi : ItemsR v items) (hm : items = xs.map f)
    (h0 : Inv [] ρ0) (hstep : ForStep w K l sc ow x body Inv f xs) (hk : ∀ ρ', Inv xs ρ' → VB w K l sc ow ρ' rest r) : VB w K l sc ow ρ (.For (.Name x p) iter body [] pos :: rest) r :=
  let ⟨ρ', a, b⟩ := vs_for Inv f xs hs he hx hv ho hi hm h0 hstep
  vb_cons a (hk ρ' b)
theorem nx_for (Inv : List α → Rho → Prop) (f : α → V) (xs : List α) {ρ ρ0 : Rho} {v : V} {items : List V} {J : Rho → Prop} (hs : PlainIter iter) (he : ρ0 = ρ ∨ ρ0 = frz ρ) (hx : isOwnB sc x = true) (hv : VE w K l sc ρ0 iter v) (ho : notOwn v = true) (hi : ItemsR v items) (hm : items = xs.map f)
    (h0 : Inv [] ρ0) (hstep : ForStep w K l sc ow x body Inv f xs) (hk : ∀ ρ', Inv xs ρ' → Nx w K l sc ow ρ' rest J) : Nx w K l sc ow ρ (.For (.Name x p) iter body [] pos :: rest) J :=
  let ⟨ρ', a, b⟩ := vs_for Inv f xs hs he hx hv ho hi hm h0 hstep
  nx_cons a (hk ρ' b)
/-- a loop that may break off -/
def BrkStep (w : World) (K : Frag) (l : Nat) (sc : Sc) (ow : List (Str × Bool)) (x : Str) (body : List Stmt) (Inv : List α → Rho → Prop) (f : α → V) (go : α → Bool) (xs : List α) : Prop :=
  ∀ pre a post ρ, xs = pre ++ a :: post → Inv pre ρ → (go a = true → Nx w K l sc ow (setR x (f a) ρ) body (Inv (pre ++ [a]))) ∧ (go a = false → ∃ ρ', VB w K l sc ow (setR x (f a) ρ) body (.brk ρ') ∧ Inv pre ρ')
theorem takeWhile_all {go : α → Bool} {pre : List α} (h : ∀ y ∈ pre, go y = true) : pre.takeWhile go = pre := by
  have := List.takeWhile_append_of_pos (l₂ := []) h
  rw [List.append_nil, List.takeWhile_nil, List.append_nil] at this
  exact this
theorem forR_brk {Inv : List α → Rho → Prop} {f : α → V} {go : α → Bool} {xs : List α} (hx : isOwnB sc x = true) (hs : BrkStep w K l sc ow x body Inv f go xs) (post : List α) : ∀ (pre : List α) (ρ : Rho), xs = pre ++ post → (∀ y ∈ pre, go y = true) → Inv pre ρ →
    ∃ ρ', ForR w K l sc ow (.Name x p) body (post.map f) ρ (.nx ρ') ∧ Inv (xs.takeWhile go) ρ' := by
  induction post with
  | nil => intro pre ρ e hp i; exact ⟨ρ, .nil, by rw [e, List.append_nil, takeWhile_all hp]; exact i⟩
  | cons a post ih =>
    intro pre ρ e hp i
    obtain ⟨h2, h3⟩ := hs pre a post ρ e i
    cases hg : go a with
    | true =>
      obtain ⟨ρ1, h4, h5⟩ := h2 hg
      obtain ⟨ρ', h6, h7⟩ := ih (pre ++ [a]) ρ1 (by rw [e, List.append_assoc]; rfl) (fun y m => by
        rcases List.mem_append.mp m with m | m
        · exact hp y m
        · rw [List.mem_singleton.mp m]; exact hg) h5
      exact ⟨ρ', .next (.name _ _ _) (bind_own hx) h4.h h6, h7⟩
    | false =>
      obtain ⟨ρ1, h4, h5⟩ := h3 hg
      refine ⟨ρ1, .brk (.name _ _ _) (bind_own hx) h4.h, ?_⟩
      rw [e, List.takeWhile_append_of_pos hp, List.takeWhile_cons_of_neg (by rw [hg]; exact fun q => nomatch q), List.append_nil]
      exact h5
theorem nx_forB (Inv : List α → Rho → Prop) (f : α → V) (go : α → Bool) (xs : List α) {ρ ρ0 : Rho} {v : V} {items : List V} {J : Rho → Prop} (hs : PlainIter iter) (he : ρ0 = ρ ∨ ρ0 = frz ρ) (hx : isOwnB sc x = true) (hv : VE w K l sc ρ0 iter v) (ho : notOwn v = true) (hi : ItemsR v items) (hm : items = xs.map f)
    (h0 : Inv [] ρ0) (hstep : BrkStep w K l sc ow x body Inv f go xs) (hk : ∀ ρ', Inv (xs.takeWhile go) ρ' → Nx w K l sc ow ρ' rest J) : Nx w K l sc ow ρ (.For (.Name x p) iter body [] pos :: rest) J := by
  subst hm
  obtain ⟨ρ', h1, h2⟩ := forR_brk hx hstep xs [] ρ0 rfl (fun _ m => nomatch m) h0
  exact nx_cons ⟨st_for hs he hv.h ho hi h1⟩ (hk ρ' h2)
/-- a loop that may return -/
theorem forR_ret {Inv : Rho → Prop} {f : α → V} (t : α → Bool) (u : V) (hx : isOwnB sc x = true) (xs : List α) : ∀ (ρ : Rho), Inv ρ → (∀ a ρ, a ∈ xs → Inv ρ → (t a = true → VB w K l sc ow (setR x (f a) ρ) body (.ret u)) ∧ (t a = false → Nx w K l sc ow (setR x (f a) ρ) body Inv)) →
    (xs.any t = true → ForR w K l sc ow (.Name x p) body (xs.map f) ρ (.ret u)) ∧ (xs.any t = false → ∃ ρ', ForR w K l sc ow (.Name x p) body (xs.map f) ρ (.nx ρ') ∧ Inv ρ') := by
  induction xs with
  | nil => exact fun ρ i _ => ⟨fun q => (nomatch q), fun _ => ⟨ρ, .nil, i⟩⟩
  | cons a xs ih =>
    intro ρ i hs
    obtain ⟨h2, h3⟩ := hs a ρ List.mem_cons_self i
    cases ht : t a with
    | true => exact ⟨fun _ => .ret (.name _ _ _) (bind_own hx) (h2 ht).h, fun q => by rw [List.any_cons, ht] at q; cases q⟩
    | false =>
      obtain ⟨ρ1, h4, h5⟩ := h3 ht
      obtain ⟨k1, k2⟩ := ih ρ1 h5 fun b ρ m => hs b ρ (List.mem_cons_of_mem _ m)
      rw [List.any_cons, ht, Bool.false_or]
      refine ⟨fun q => .next (.name _ _ _) (bind_own hx) h4.h (k1 q), fun q => ?_⟩
      obtain ⟨ρ', c, d⟩ := k2 q
      exact ⟨ρ', .next (.name _ _ _) (bind_own hx) h4.h c, d⟩
theorem vb_forR (Inv : Rho → Prop) (f : α → V) (t : α → Bool) (u : V) (xs : List α) {ρ ρ0 : Rho} {v r : V} {items : List V} (hs : PlainIter iter) (he : ρ0 = ρ ∨ ρ0 = frz ρ) (hx : isOwnB sc x = true) (hv : VE w K l sc ρ0 iter v) (ho : notOwn v = true) (hi : ItemsR v items) (hm : items = xs.map f) (h0 : Inv ρ0)
    (hstep : ∀ a ρ, a ∈ xs → Inv ρ → (t a = true → VB w K l sc ow (setR x (f a) ρ) body (.ret u)) ∧ (t a = false → Nx w K l sc ow (setR x (f a) ρ) body Inv)) (h1 : xs.any t = true → u = r) (h2 : xs.any t = false → ∀ ρ', Inv ρ' → VB w K l sc ow ρ' rest (.ret r)) :
    VB w K l sc ow ρ (.For (.Name x p) iter body [] pos :: rest) (.ret r) := by
  subst hm
  obtain ⟨k1, k2⟩ := forR_ret (p := p) t u hx xs ρ0 h0 hstep
  cases ha : xs.any t with
  | true => exact vb_ret ⟨st_for hs he hv.h ho hi (h1 ha ▸ k1 ha)⟩
  | false =>
    obtain ⟨ρ', a, b⟩ := k2 ha
    exact vb_cons ⟨st_for hs he hv.h ho hi a⟩ (h2 ha ρ' b)
end
/-! ## comprehensions -/
section
variable {w : World} {K : Frag} {l : Nat} {sc : Sc} {ρ : Rho} {elt target : Expr} {α : Type}
theorem compR_filter {ifs : List Expr} (f g : α → V) (b : α → Rho) (t : α → Bool) (xs : List α) (hn : ∀ x, ∀ p ∈ b x, nameOkIn sc p.1 = true)
    (h1 : ∀ x ∈ xs, BindR target (f x) (b x)) (h2 : ∀ x ∈ xs, IfsR w K l sc (b x ++ ρ) ifs (t x)) (h3 : ∀ x ∈ xs, t x = true → VE w K l sc (b x ++ ρ) elt (g x)) :
    CompR w K l elt target ifs sc ρ (xs.map f) ((xs.filter t).map g) := by
  induction xs with
  | nil => exact .nil
  | cons x xs ih =>
    have ih := ih (fun y m => h1 y (List.mem_cons_of_mem _ m)) (fun y m => h2 y (List.mem_cons_of_mem _ m)) (fun y m => h3 y (List.mem_cons_of_mem _ m))
    refine .step (h1 x List.mem_cons_self) (hn x) (h2 x List.mem_cons_self) ih ?_
    cases ht : t x with
    | true => exact .inl ⟨rfl, _, by rw [List.filter_cons_of_pos ht]; rfl, (h3 x List.mem_cons_self ht).h⟩
    | false => exact .inr ⟨rfl, by rw [List.filter_cons_of_neg (ne_true_of_eq_false ht)]⟩
theorem ifs_one {e : Expr} {t : Bool} (h : VT w K l sc ρ e t) : IfsR w K l sc ρ [e] t := by
  cases t with
  | true => exact .t h.h .nil
  | false => exact .f h.h
theorem bind_ok {scope : Scope} {x : Str} (h : nameOkIn scope.names x = true) {v : V} : ∀ q ∈ [(x, v)], nameOkIn scope.names q.1 = true := fun q m => by rw [List.mem_singleton.mp m]; exact h
/-- a comprehension: as a value, and as one that is used at once -/
structure VC (w : World) (K : Frag) (l : Nat) (sc : Sc) (ρ : Rho) (e : Expr) (v : V) : Prop where
  ev : Ev w K l sc ρ e v
  us : Us w K l sc ρ e v
variable {iter : Expr} {scope : Scope} {v0 v : V} {us : List V} {x y : Str} {p p1 p2 tp : Pos} {n : Nat} {xs : List α}
theorem vc_gen {ifs : List Expr} {zs : List V} (c : CompH sc scope) (c4 : PlainIter iter) (hi : VE w K l sc ρ iter v0) (ho : notOwn v0 = true) (hu : ItemsR v0 us) (hr : CompR w K l elt target ifs scope.names (innerRho scope.names ρ) us zs) (hl : short zs.length = true) (h : PackR zs v) : VC w K l sc ρ (.ListComp elt [⟨target, iter, ifs, 0⟩] scope p) v :=
  ⟨ev_comp c c4 hi.h ho hu hr hl h, us_comp c c4 hi.h ho hu hr hl h⟩
theorem vc_filter {test : Expr} (f : α → V) (g : α → PyData) (t : α → Bool) (c : CompH sc scope) (c4 : PlainIter iter) (hi : VE w K l sc ρ iter v0) (ho : notOwn v0 = true) (hu : ItemsR v0 us) (hm : us = xs.map f) (hx : nameOkIn scope.names x = true) (hs : short xs.length = true)
    (ht : ∀ a ∈ xs, VT w K l scope.names ((x, f a) :: innerRho scope.names ρ) test (t a)) (he : ∀ a ∈ xs, t a = true → VE w K l scope.names ((x, f a) :: innerRho scope.names ρ) elt (.d (g a))) : VC w K l sc ρ (.ListComp elt [⟨.Name x tp, iter, [test], 0⟩] scope p) (.d (.list ((xs.filter t).map g))) := by
  subst hm
  refine vc_gen c c4 hi ho hu (compR_filter f (fun a => .d (g a)) (fun a => [(x, f a)]) t xs (fun a => bind_ok hx) (fun a _ => .name _ _ _) (fun a m => ifs_one (ht a m)) he) ?_ ?_
  · rw [List.length_map]
    exact Nat.ble_eq_true_of_le (Nat.le_trans (List.length_filter_le _ _) (short_le hs))
  · have h := PackR.d ((xs.filter t).map g)
    rw [List.map_map] at h
    exact h
theorem compR_map (f g : α → V) (b : α → Rho) (xs : List α) (hn : ∀ x, ∀ p ∈ b x, nameOkIn sc p.1 = true) (h1 : ∀ x ∈ xs, BindR target (f x) (b x)) (h3 : ∀ x ∈ xs, VE w K l sc (b x ++ ρ) elt (g x)) :
    CompR w K l elt target [] sc ρ (xs.map f) (xs.map g) := by
  have h := compR_filter (w := w) (K := K) (l := l) (ρ := ρ) (elt := elt) f g b (fun _ => true) xs hn h1 (fun _ _ => .nil) (fun x m _ => h3 x m)
  rw [List.filter_eq_self.mpr (fun _ _ => rfl)] at h
  exact h
theorem pack_map {F : α → PyData} : PackR (xs.map fun a => V.d (F a)) (.d (.list (xs.map F))) := by
  have h := PackR.d (xs.map F)
  rw [List.map_map] at h
  exact h
theorem vc_map (f : α → V) (F : α → PyData) (c : CompH sc scope) (c4 : PlainIter iter) (hi : VE w K l sc ρ iter v0) (ho : notOwn v0 = true) (hu : ItemsR v0 us) (hm : us = xs.map f) (hx : nameOkIn scope.names x = true) (hs : short xs.length = true)
    (he : ∀ a ∈ xs, VE w K l scope.names ((x, f a) :: innerRho scope.names ρ) elt (.d (F a))) : VC w K l sc ρ (.ListComp elt [⟨.Name x tp, iter, [], 0⟩] scope p) (.d (.list (xs.map F))) := by
  subst hm
  exact vc_gen c c4 hi ho hu (compR_map f (fun a => .d (F a)) (fun a => [(x, f a)]) xs (fun a => bind_ok hx) (fun a _ => .name _ _ _) he) (by rw [List.length_map]; exact hs) pack_map
theorem vc_ws (f : α → V) (F : α → Str) (c : CompH sc scope) (c4 : PlainIter iter) (hi : VE w K l sc ρ iter v0) (ho : notOwn v0 = true) (hu : ItemsR v0 us) (hm : us = xs.map f) (hx : nameOkIn scope.names x = true) (hs : short xs.length = true)
    (he : ∀ a ∈ xs, VE w K l scope.names ((x, f a) :: innerRho scope.names ρ) elt (.ws (F a))) : VC w K l sc ρ (.ListComp elt [⟨.Name x tp, iter, [], 0⟩] scope p) (.wsl (xs.map F)) := by
  subst hm
  refine vc_gen c c4 hi ho hu (compR_map f (fun a => .ws (F a)) (fun a => [(x, f a)]) xs (fun a => bind_ok hx) (fun a _ => .name _ _ _) he) (by rw [List.length_map]; exact hs) ?_
  have h := PackR.ws (xs.map F)
  rw [List.map_map] at h
  exact h
theorem vc_pair (d1 d2 : α → PyData) (F : α → PyData) (c : CompH sc scope) (c4 : PlainIter iter) (hi : VE w K l sc ρ iter v0) (ho : notOwn v0 = true) (hu : ItemsR v0 us) (hm : us = xs.map fun a => .d (.tuple [d1 a, d2 a])) (hxy : (x == y) = false) (hx : nameOkIn scope.names x = true) (hy : nameOkIn scope.names y = true) (hs : short xs.length = true)
    (he : ∀ a ∈ xs, VE w K l scope.names ((x, .d (d1 a)) :: (y, .d (d2 a)) :: innerRho scope.names ρ) elt (.d (F a))) : VC w K l sc ρ (.ListComp elt [⟨.Tuple [.Name x p1, .Name y p2] n tp, iter, [], 0⟩] scope p) (.d (.list (xs.map F))) := by
  subst hm
  refine vc_gen c c4 hi ho hu (compR_map _ (fun a => .d (F a)) (fun a => [(x, .d (d1 a)), (y, .d (d2 a))]) xs (fun a q m => ?_) (fun a _ => .pair hxy) he) (by rw [List.length_map]; exact hs) pack_map
  rcases List.mem_cons.mp m with rfl | m
  · exact hx
  · rw [List.mem_singleton.mp m]; exact hy
theorem ve_two {β : Type} {iter1 : Expr} {x1 x2 : Str} (f : α → V) (g : α → List β) (h : β → V) (F : β → PyData) (c : CompH sc scope) (c4 : PlainIter iter) (c5 : PlainIter iter1) (hi : VE w K l sc ρ iter v0) (ho : notOwn v0 = true) (hu : ItemsR v0 us) (hm : us = xs.map f) (hx : nameOkIn scope.names x1 = true) (hy : nameOkIn scope.names x2 = true)
    (hs : ∀ a ∈ xs, ∃ u, VE w K l scope.names ((x1, f a) :: innerRho scope.names ρ) iter1 u ∧ notOwn u = true ∧ ItemsR u ((g a).map h)) (he : ∀ a ∈ xs, ∀ b ∈ g a, VE w K l scope.names ((x2, h b) :: innerRho scope.names ρ) elt (.d (F b))) (hl : short (xs.flatMap fun a => (g a).map F).length = true) :
    VE w K l sc ρ (.ListComp elt [⟨.Name x1 p1, iter, [], 0⟩, ⟨.Name x2 p2, iter1, [], 0⟩] scope p) (.d (.list (xs.flatMap fun a => (g a).map F))) := by
  subst hm
  have key : CompR2 w K l elt (.Name x1 p1) [] (.Name x2 p2) iter1 [] scope.names (innerRho scope.names ρ) (xs.map f) ((xs.flatMap fun a => (g a).map F).map .d) := by
    clear hl hu
    induction xs with
    | nil => exact .nil
    | cons a xs ih =>
      have ih := ih (fun y m => hs y (List.mem_cons_of_mem _ m)) (fun y m => he y (List.mem_cons_of_mem _ m))
      obtain ⟨u, q1, q2, q3⟩ := hs a List.mem_cons_self
      have q4 := compR_map (target := .Name x2 p2) (sc := scope.names) h (fun b => .d (F b)) (fun b => [(x2, h b)]) (g a) (fun b => bind_ok hy) (fun b _ => .name _ _ _) (he a List.mem_cons_self)
      rw [List.flatMap_cons, List.map_append, List.map_map]
      exact .step (.name _ _ _) (bind_ok hx) .nil q1.h q2 q3 q4 ih
  exact ⟨ev_comp2 c c4 c5 hi.h ho hu key (by rw [List.length_map]; exact hl) (PackR.d _)⟩
theorem ve_comp {elts : List Comprehension} (h : VC w K l sc ρ (.ListComp elt elts scope p) v) : VE w K l sc ρ (.ListComp elt elts scope p) v := ⟨h.ev⟩
theorem vs_comp {ow : List (Str × Bool)} {elts : List Comprehension} {cp : Pos} (hx : isOwnB sc x = true) (h : VC w K l sc ρ (.ListComp elt elts scope cp) v) (ho : notOwn v = true) : VS w K l sc ow ρ (.Assign [.Name x p] (.ListComp elt elts scope cp) tp) (.nx (setR x v ρ)) := ⟨st_comp hx h.ev h.us ho⟩
end
local macro_rules | `(tactic| walk_at "ml") => `(tactic| ((repeat (first | with_reducible exact look_here | with_reducible exact lookc_here | with_reducible assumption | ((with_reducible apply look_past); (focus kernel_rfl)) | ((with_reducible apply lookc_past); (focus kernel_rfl)) | ((with_reducible apply look_inner); (focus kernel_rfl)) | with_reducible apply look_frz | with_reducible exact frz_d | with_reducible exact frz_own | with_reducible exact frz_wsl | with_reducible exact frz_ws | with_reducible exact frz_fn)); done))
local macro_rules | `(tactic| walk_at "ms") => `(tactic| (first | ((with_reducible apply vs_new); (focus kernel_rfl)) | ((with_reducible apply vs_comp); (focus kernel_rfl)) | ((with_reducible apply vs_name); (focus (exact fun _ _ => rfl)); (focus kernel_rfl)) | ((with_reducible apply vs_tuple); (focus (exact fun _ _ => rfl)); (focus (first | exact fun _ => .inl rfl | exact swapped_two (by kernel_rfl) (ne_of_beq_false (by kernel_rfl)))); (focus kernel_rfl); (focus kernel_rfl); (focus kernel_rfl)) | ((with_reducible apply vs_three); (focus (exact fun _ => rfl)); (focus kernel_rfl); (focus kernel_rfl); (focus kernel_rfl)) | with_reducible apply vs_if | with_reducible apply vs_return | ((with_reducible apply vs_append); (focus kernel_rfl); (focus kernel_rfl); (focus kernel_rfl); (focus kernel_rfl); (focus walk_at "ml"); (focus (exact fun _ _ => rfl))) | ((with_reducible apply vs_aug); (focus (first | exact .inl ⟨rfl, rfl⟩ | exact .inr ⟨rfl, rfl⟩)); (focus kernel_rfl); (focus kernel_rfl); (focus walk_at "ml")) | with_reducible exact vs_break | with_reducible apply vs_assert))
local macro_rules | `(tactic| walk_at "mw") => `(tactic| (repeat' first | ((with_reducible show VE _ _ _ _ _ _ _); first | ((with_reducible apply ve_name); (focus kernel_rfl); (focus kernel_rfl); (focus with_reducible assumption)) | ((with_reducible apply ve_name); (focus kernel_rfl); (focus kernel_rfl); (focus walk_at "ml")) | ((with_reducible apply ve_glob); (focus kernel_rfl); (focus kernel_rfl)) | with_reducible exact ve_int | with_reducible apply ve_bin | with_reducible apply ve_call | with_reducible apply ve_slice | with_reducible apply ve_sub | with_reducible exact ve_c_dots | with_reducible exact ve_c_nil | with_reducible exact ve_c_sp | with_reducible exact ve_c_tab | with_reducible exact ve_c_sp2 | with_reducible exact ve_c_st | with_reducible exact ve_c_ts | with_reducible exact ve_c_tsst | with_reducible exact ve_c_a | with_reducible exact ve_c_b | with_reducible exact ve_c_c | with_reducible exact ve_c_ab | with_reducible exact ve_bool | ((with_reducible apply ve_cmp); (focus kernel_rfl)) | ((first | with_reducible show VE _ _ _ _ _ (.Call (.Attribute _ (Str.ofString "less") _) _ _ _) _ | with_reducible show VE _ _ _ _ _ (.Call (.Attribute _ (Str.ofString "equal") _) _ _ _) _ | with_reducible show VE _ _ _ _ _ (.Call (.Attribute _ (Str.ofString "indent_level") _) _ _ _) _ | with_reducible show VE _ _ _ _ _ (.Call (.Attribute _ (Str.ofString "longest_run_of_spaces") _) _ _ _) _); (with_reducible apply ve_methW); (focus (exact fun _ _ _ => rfl)); (focus kernel_rfl); (focus kernel_rfl)) | ((with_reducible apply ve_meth); (focus (exact fun _ _ _ => rfl)); (focus kernel_rfl); (focus kernel_rfl)) | ((with_reducible apply ve_attr); (focus (exact fun _ _ _ => rfl))) | with_reducible apply ve_condT | with_reducible apply ve_condF | with_reducible apply ve_if | with_reducible apply ve_comp | with_reducible apply ve_neg | with_reducible apply ve_list | with_reducible apply ve_tuple2 | with_reducible apply ve_tuple3) | ((with_reducible show VT _ _ _ _ _ _ _); first | with_reducible assumption | with_reducible apply vt_not | ((with_reducible apply vt_cmp); (focus kernel_rfl)) | ((with_reducible apply vt_val); (focus (exact fun _ _ => rfl)))) | with_reducible assumption | with_reducible exact ArgsR.nil | ((with_reducible apply va_cons); (focus (exact fun _ _ => rfl))) | ((with_reducible show NotStar _); exact fun _ _ => rfl) | with_reducible apply nx_nil | with_reducible apply nx_condT | with_reducible apply nx_condF | with_reducible apply nx_ifl | ((with_reducible apply nx_cons); (focus walk_at "ms")) | with_reducible exact vb_nil | with_reducible apply vb_condT | with_reducible apply vb_condF | ((with_reducible apply vb_last); (focus walk_at "ms")) | ((with_reducible apply vb_cons); (focus walk_at "ms")) | with_reducible exact BinR.addI _ _ | with_reducible exact BinR.subI _ _ | with_reducible apply bin_tx | with_reducible apply BinR.divI | with_reducible apply BinR.modI | with_reducible exact CmpR.gt _ _ | with_reducible exact CmpR.lt _ _ | with_reducible exact TruthR.bool _ | with_reducible exact PartE.none | with_reducible apply vp_some | with_reducible exact max_call | with_reducible apply len_call (len_tx _) | with_reducible exact range1_call | with_reducible exact range2_call | with_reducible apply slice_txR | ((with_reducible show _ = true); rfl) | ((with_reducible show PackR _ _); first | exact PackR.d [_] | exact PackR.d [_, _] | exact PackR.d [_, _, _] | exact PackR.d [_, _, _, _, _]) ))
noncomputable def cramP (t : List Nat) (w : Int) : List Nat :=
  if (w : Int) < t.length then
    let pre := max 0 ((w - 3).fdiv 2)
    let post := max 0 (w - 3 - pre)
    t.take pre.toNat ++ [46, 46, 46] ++ t.drop ((t.length : Int) - post).toNat
  else t

section
variable {w : World} {K : Frag} {l : Nat}
theorem cram_bk (g1 : GOk K "len" (.fn (.builtin "len"))) (g2 : GOk K "max" (.fn (.builtin "max"))) {t : List Nat} {n : Int} (ht : t.length ≤ 1000) (h1 : -1000 ≤ n) (h2 : n ≤ 1000) :
    VB w K l (fnSc (topSt 3)) [] [("text", .d (tx t)), ("maxlen", .d (.int n))] (fnBody (topSt 3)) (.ret (.d (tx (cramP t n)))) := by
  conv => arg 7; whnf
  have e1 : short t.length = true := short_of (by omega)
  by_cases h : n < t.length
  · have c : CmpR .Gt (.d (.int (t.length : Int))) (.d (.int n)) true := decide_eq_true h ▸ CmpR.gt _ _
    have e8 : short ([46, 46, 46] : List Nat).length = true := rfl
    have l1 : (cutP t none (some (max 0 ((n - 3).fdiv 2)))).length ≤ 1000 := by rw [cut_hi (Int.le_max_left _ _), List.length_take]; omega
    have e4 : short (cutP t none (some (max 0 ((n - 3).fdiv 2)))).length = true := short_of (by omega)
    have e7 : short (cutP t none (some (max 0 ((n - 3).fdiv 2))) ++ [46, 46, 46]).length = true := short_of (by rw [List.length_append]; exact Nat.le_trans (Nat.add_le_add_right l1 3) (by decide))
    have e5 : ∀ l, short (cutP t (some l) none).length = true := fun l => short_of (Nat.le_trans (by unfold cutP; rw [List.length_take, List.length_drop]; omega : _ ≤ t.length) (by omega))
    have e6 := e5 ((t.length : Int) - max 0 (n - 3 - max 0 ((n - 3).fdiv 2)))
    refine vb_ret (vs_ifT ?_ ?_)
    · walk_at "mw"
    · rw [cramP, if_pos h]; dsimp only; rw [← cut_hi (Int.le_max_left _ _), ← cut_lo (by omega)]
      walk_at "mw"
  · have c : CmpR .Gt (.d (.int (t.length : Int))) (.d (.int n)) false := decide_eq_false h ▸ CmpR.gt _ _
    rw [cramP, if_neg h]
    refine vb_cons (vs_ifF ?_ vb_nil) ?_
    · walk_at "mw"
    · walk_at "mw"
end
/-! ## _law_leads -/
noncomputable def sgP (d : Int) : List Nat := [[32], [9]].getD (d.fmod 2).toNat []
noncomputable def otP (d : Int) : List Nat := [[], [32], [9], [32, 32], [32, 9]].getD (d.fdiv 2).toNat []
noncomputable def leadStep (st : List Nat × List Nat) (x : Int) : List Nat × List Nat := (st.1 ++ sgP (x.fmod 10), st.2 ++ otP (x.fmod 10))
noncomputable def leadsP (xs : List Int) : List Nat × List Nat := ((xs.take 3).foldl leadStep ([32, 32], [9, 32]))
theorem fmod10 (x : Int) : 0 ≤ x.fmod 10 ∧ x.fmod 10 < 10 := ⟨Int.fmod_nonneg_of_pos x (by decide), Int.fmod_lt_of_pos x (by decide)⟩
theorem dig_cases {d : Int} (h : 0 ≤ d ∧ d < 10) : d = 0 ∨ d = 1 ∨ d = 2 ∨ d = 3 ∨ d = 4 ∨ d = 5 ∨ d = 6 ∨ d = 7 ∨ d = 8 ∨ d = 9 := by omega
theorem sub_two {d : Int} {xs : List PyData} {r : PyData} (h0 : 0 ≤ d) (hn : d < 100) (hx : xs[d.toNat]? = some r) : SubR (.d (.list xs)) d (.d r) := by
  have hlt : d.toNat < xs.length := (List.getElem?_eq_some_iff.mp hx).1
  refine .list (.d xs) (small_of (by omega) (by omega)) (k := d.toNat) ?_ hx
  unfold aIdx
  rw [if_pos ⟨h0, by omega⟩]
theorem sub_sg {d : Int} (h : 0 ≤ d ∧ d < 10) : SubR (.d (.list [tx [32], tx [9]])) (d.fmod 2) (.d (tx (sgP d))) := by
  rcases dig_cases h with rfl | rfl | rfl | rfl | rfl | rfl | rfl | rfl | rfl | rfl <;> exact sub_two (by decide) (by decide) rfl
theorem sub_ot {d : Int} (h : 0 ≤ d ∧ d < 10) : SubR (.d (.list [tx [], tx [32], tx [9], tx [32, 32], tx [32, 9]])) (d.fdiv 2) (.d (tx (otP d))) := by
  rcases dig_cases h with rfl | rfl | rfl | rfl | rfl | rfl | rfl | rfl | rfl | rfl <;> exact sub_two (by decide) (by decide) rfl
theorem sg_len {d : Int} : (sgP d).length ≤ 1 := by
  unfold sgP
  generalize (d.fmod 2).toNat = n
  match n with
  | 0 => decide
  | 1 => decide
  | n + 2 => simp
theorem ot_len {d : Int} : (otP d).length ≤ 2 := by
  unfold otP
  generalize (d.fdiv 2).toNat = n
  match n with
  | 0 => decide
  | 1 => decide
  | 2 => decide
  | 3 => decide
  | 4 => decide
  | n + 5 => simp

theorem lead_len (pre : List Int) : ((pre.foldl leadStep ([32, 32], [9, 32])).1).length ≤ 2 + pre.length ∧ ((pre.foldl leadStep ([32, 32], [9, 32])).2).length ≤ 2 + 2 * pre.length := by
  have key : ∀ (pre : List Int) (st : List Nat × List Nat), ((pre.foldl leadStep st).1).length ≤ st.1.length + pre.length ∧ ((pre.foldl leadStep st).2).length ≤ st.2.length + 2 * pre.length := by
    intro pre
    induction pre with
    | nil => intro st; simp
    | cons x pre ih =>
      intro st
      have h := ih (leadStep st x)
      have h1 := sg_len (d := x.fmod 10)
      have h2 := ot_len (d := x.fmod 10)
      simp -implicitDefEqProofs only [List.foldl_cons, leadStep, List.length_append, List.length_cons] at h ⊢
      omega
  exact key pre _

section
variable {w : World} {K : Frag} {l : Nat}
theorem leads_bk {xs : List Int} (hx : xs.length ≤ 1000) :
    VB w K l (fnSc (topSt 11)) [] [("script", .d (.list (xs.map .int)))] (fnBody (topSt 11)) (.ret (.d (.tuple [tx ((leadsP xs).1 ++ [9, 32, 32, 9]), tx (leadsP xs).2]))) := by
  conv => arg 7; whnf
  have e1 : short (xs.map PyData.int).length = true := short_of (by rw [List.length_map]; omega)
  walk_at "mw"
  refine vb_for (fun pre ρ => At ρ "one" (.d (tx (pre.foldl leadStep ([32, 32], [9, 32])).1)) ∧ At ρ "two" (.d (tx (pre.foldl leadStep ([32, 32], [9, 32])).2))) (fun i => V.d (.int i)) (xs.take 3) (v := .d (.list ((xs.map PyData.int).take (Int.toNat 3)))) (fun _ _ => rfl) (.inl rfl) (by kernel_rfl)
    ?_ rfl (.list _) (by show List.map V.d (List.take 3 (xs.map PyData.int)) = _; rw [← List.map_take, List.map_map]; rfl) ⟨?_, ?_⟩ ?_ ?_
  · have h := SliceR.list (xs := xs.map PyData.int) (u := 3) (by decide) e1 rfl
    walk_at "mw"
  · show At _ _ (.d (tx [32, 32])); walk_at "ml"
  · show At _ _ (.d (tx [9, 32])); walk_at "ml"
  · intro pre x post ρ hxs hi
    obtain ⟨i1, i2⟩ := hi
    have hpre : pre.length ≤ 3 := by
      have := congrArg List.length hxs
      simp at this; omega
    obtain ⟨l1, l2⟩ := lead_len pre
    have d1 := fmod10 x
    have s2 : short ((pre.foldl leadStep ([32, 32], [9, 32])).1).length = true := short_of (by omega)
    have s3 : short ((pre.foldl leadStep ([32, 32], [9, 32])).2).length = true := short_of (by omega)
    have s4 : short (sgP (x.fmod 10)).length = true := short_of (by have := sg_len (d := x.fmod 10); omega)
    have s5 : short (otP (x.fmod 10)).length = true := short_of (by have := ot_len (d := x.fmod 10); omega)
    have s6 : small (x.fmod 10) = true := small_of (by omega) (by omega)
    have e4 := sub_sg d1
    have e5 := sub_ot d1
    walk_at "mw"
    show At _ _ (.d (tx ((pre ++ [x]).foldl leadStep ([32, 32], [9, 32])).1)) ∧ At _ _ (.d (tx ((pre ++ [x]).foldl leadStep ([32, 32], [9, 32])).2))
    rw [List.foldl_append]
    exact ⟨look_past (by kernel_rfl) look_here, look_here⟩
  · intro ρ hi
    obtain ⟨i1, i2⟩ := hi
    have l1 := lead_len (xs.take 3)
    have l3 : (xs.take 3).length ≤ 3 := by rw [List.length_take]; omega
    have s2 : short ((List.foldl leadStep ([32, 32], [9, 32]) (xs.take 3)).1).length = true := short_of (by omega)
    have s3 : short ([9, 32, 32, 9] : List Nat).length = true := rfl
    unfold leadsP
    walk_at "mw"
end
theorem eqOk_int {i : Int} : eqOk (.int i) = true := rfl
theorem eqOk_bool {i : Bool} : eqOk (.bool i) = true := rfl
theorem eqOk_tx {a : List Nat} (h : a.all okC = true) : eqOk (tx a) = true := (D.tx (k := 0) h).ok (by decide)
theorem eqv_int {i j : Int} : PyData.eqv (.int i) (.int j) = (i == j) := by simp [PyData.eqv]
theorem eqv_bool {i j : Bool} : PyData.eqv (.bool i) (.bool j) = (i == j) := by simp [PyData.eqv]
theorem fdivk {k : Nat} : (k : Int).fdiv 2 = ((k / 2 : Nat) : Int) := by
  rw [Int.fdiv_eq_ediv_of_nonneg _ (by decide)]; omega
theorem fmodk {k : Nat} : (k : Int).fmod 2 = ((k % 2 : Nat) : Int) := by
  rw [Int.fmod_eq_emod_of_nonneg _ (by decide)]; omega
theorem div2 {k : Nat} : BinR .FloorDiv (.d (.int k)) (.d (.int 2)) (.d (.int ((k / 2 : Nat) : Int))) := fdivk ▸ .divI rfl rfl
theorem mod2 {k : Nat} : BinR .Mod (.d (.int k)) (.d (.int 2)) (.d (.int ((k % 2 : Nat) : Int))) := fmodk ▸ .modI rfl
theorem cmp_eqI {x y : Int} {t : Bool} (h : decide (x = y) = t) : CmpR .Eq (.d (.int x)) (.d (.int y)) t := by
  have := CmpR.eq (x := .int x) (y := .int y) rfl rfl
  rw [eqv_int] at this
  rw [show (x == y) = t from h] at this
  exact this
abbrev natV (k : Nat) : V := V.d (.int (k : Int))
theorem items_rng0 {n : Nat} (h' : n ≤ 1000000) : ItemsR (.rng 0 (n : Int)) ((List.range n).map natV) := by
  have e := ItemsR.rng (a := 0) (b := (n : Int)) rfl (small_of (by omega) (by omega))
  have q : (intRange 0 (n : Int)).map (fun i => V.d (.int i)) = (List.range n).map natV := by
    unfold intRange
    rw [List.map_map, Int.sub_zero, Int.toNat_natCast]
    apply List.map_congr_left
    intro k _
    simp
  rw [q] at e
  exact e
abbrev succV (k : Nat) : V := V.d (.int ((k : Int) + 1))
theorem items_rng1 {n : Int} (h : -1000000 ≤ n) (h' : n ≤ 1000000) : ItemsR (.rng 1 n) ((List.range (n - 1).toNat).map succV) := by
  have e := ItemsR.rng (a := 1) (b := n) rfl (small_of (by omega) (by omega))
  have q : (intRange 1 n).map (fun i => V.d (.int i)) = (List.range (n - 1).toNat).map succV := by
    unfold intRange
    rw [List.map_map]
    apply List.map_congr_left
    intro k _
    show V.d (.int (1 + (k : Int))) = _
    rw [Int.add_comm]
  rw [q] at e
  exact e
theorem small_nat {k : Nat} (h : k ≤ 1000000) : small (k : Int) = true := small_of (by omega) (by omega)
theorem range_split {n : Nat} {pre post : List Nat} {x : Nat} (h : List.range n = pre ++ x :: post) : x < n ∧ pre = List.range x := by
  have h1 : x < n := List.mem_range.mp (by rw [h]; simp)
  have h2 : (List.range n)[pre.length]? = some x := by rw [h]; simp
  have h3 : pre.length < n := by
    have := congrArg List.length h
    simp at this; omega
  rw [List.getElem?_range h3] at h2
  have h4 : pre.length = x := by simpa using h2
  refine ⟨h1, ?_⟩
  have h5 : (List.range n).take pre.length = pre := by rw [h]; simp
  rw [← h5, List.take_range, ← h4]
  congr 1; omega
theorem getD_some {α : Type} {l : List α} {k : Nat} {d : α} (h : k < l.length) : l[k]? = some (l.getD k d) := by
  rw [List.getD_eq_getElem?_getD, List.getElem?_eq_getElem h]; rfl
theorem aIdx_nat {n k : Nat} (h : k < n) : aIdx n (k : Int) = some k := by
  unfold aIdx
  rw [if_pos ⟨Int.natCast_nonneg _, by omega⟩, Int.toNat_natCast]
theorem sub_tx {lead : List Nat} {k c : Nat} (h : lead[k]? = some c) (hl : lead.length ≤ 1000000) : SubR (.d (tx lead)) (k : Int) (.d (tx [c])) := by
  have hk : k < lead.length := (List.getElem?_eq_some_iff.mp h).1
  exact .str (s := S lead) (k := k) (small_nat (by omega)) (by rw [S_len]; exact aIdx_nat hk) (by show lead.toArray[k]? = _; rw [List.getElem?_toArray]; exact h)
theorem sub_list {o : V} {xs : List PyData} {k : Nat} {d : PyData} (hl : ListR o xs) (h : xs[k]? = some d) (hs : xs.length ≤ 1000000) : SubR o (k : Int) (.d d) := by
  have hk : k < xs.length := (List.getElem?_eq_some_iff.mp h).1
  exact .list hl (small_nat (by omega)) (aIdx_nat hk) h

/-! ## _law_parts -/
noncomputable def partStep (lead : List Nat) (st : List Nat × List Nat) (k : Nat) : List Nat × List Nat := if k % 2 = 0 then (st.1, lead.getD (lead.length - 1 - k / 2) 0 :: st.2) else (st.1 ++ [lead.getD (k / 2) 0], st.2)
noncomputable def partP (lead : List Nat) (size : Nat) : List Nat × List Nat := (List.range size).foldl (partStep lead) ([], [])
noncomputable def partsP (lead : List Nat) : List (List Nat × List Nat) := (List.range (lead.length - 3)).map (partP lead)
noncomputable def pairD (p : List Nat × List Nat) : PyData := .tuple [tx p.1, tx p.2]
theorem partP_succ (lead : List Nat) (n : Nat) : partP lead (n + 1) = partStep lead (partP lead n) n := by
  unfold partP
  rw [List.range_succ, List.foldl_append, List.foldl_cons, List.foldl_nil]
theorem partP_len (lead : List Nat) (n : Nat) : (partP lead n).1.length + (partP lead n).2.length = n := by
  induction n with
  | zero => rfl
  | succ n ih =>
    rw [partP_succ]
    generalize partP lead n = p at ih ⊢
    unfold partStep
    split
    · show p.1.length + (_ :: p.2).length = _; rw [List.length_cons]; omega
    · show (p.1 ++ _).length + p.2.length = _; rw [List.length_append, List.length_singleton]; omega
section
variable {w : World} {K : Frag} {l : Nat}
theorem parts_bk (g1 : GOk K "len" (.fn (.builtin "len"))) (g2 : GOk K "range" (.fn (.type "range"))) {lead : List Nat} (h3 : 3 ≤ lead.length) (hl : lead.length ≤ 1000) :
    VB w K l (fnSc (topSt 12)) [("parts", true)] [("lead", .d (tx lead))] (fnBody (topSt 12)) (.ret (.d (.list ((partsP lead).map pairD)))) := by
  conv => arg 7; whnf
  have e1 : short lead.length = true := short_of (by omega)
  have e2 := items_rng0 (n := lead.length - 3) (by omega)
  have e3 : BinR .Sub (.d (.int (lead.length : Int))) (.d (.int 3)) (.d (.int ((lead.length - 3 : Nat) : Int))) := by
    rw [show ((lead.length - 3 : Nat) : Int) = (lead.length : Int) - 3 by omega]; exact .subI _ _
  walk_at "mw"
  refine vb_for (fun pre ρ => At ρ "lead" (.d (tx lead)) ∧ At ρ "parts" (.own ((pre.map (partP lead)).map pairD))) natV (List.range (lead.length - 3)) (v := .rng 0 ((lead.length - 3 : Nat) : Int)) (fun _ _ => rfl) (.inl rfl) (by kernel_rfl) ?_ rfl e2 rfl ⟨?_, ?_⟩ ?_ ?_
  · walk_at "mw"
  · walk_at "ml"
  · exact look_here
  · intro pre size post ρ hxs hi
    obtain ⟨i1, i2⟩ := hi
    obtain ⟨hs, hpre⟩ := range_split hxs
    have e4 := items_rng0 (n := size) (by omega)
    walk_at "mw"
    refine nx_for (fun pre' ρ => At ρ "lead" (.d (tx lead)) ∧ At ρ "parts" (.own ((pre.map (partP lead)).map pairD)) ∧ At ρ "front" (.d (tx (partP lead pre'.length).1)) ∧ At ρ "back" (.d (tx (partP lead pre'.length).2))) natV (List.range size) (v := .rng 0 (size : Int)) (fun _ _ => rfl) (.inl rfl) (by kernel_rfl) ?_ rfl e4 rfl ⟨?_, ?_, ?_, ?_⟩ ?_ ?_
    · walk_at "mw"
    · walk_at "ml"
    · walk_at "ml"
    · show At _ _ (.d (tx [])); walk_at "ml"
    · show At _ _ (.d (tx [])); walk_at "ml"
    · intro pre' k post' ρ' hxs' hi'
      obtain ⟨j1, j2, j3, j4⟩ := hi'
      obtain ⟨hk, hpre'⟩ := range_split hxs'
      have hkl : pre'.length = k := by rw [hpre']; simp
      rw [hkl] at j3 j4
      have e9 : (pre' ++ [k]).length = k + 1 := by rw [List.length_append, hkl]; rfl
      have hlen := partP_len lead k
      have s2 : short (partP lead k).1.length = true := short_of (by omega)
      have s3 : short (partP lead k).2.length = true := short_of (by omega)
      have s4 : BinR .Sub (.d (.int ((lead.length : Int) - 1))) (.d (.int ((k / 2 : Nat) : Int))) (.d (.int ((lead.length - 1 - k / 2 : Nat) : Int))) := by
        rw [show ((lead.length - 1 - k / 2 : Nat) : Int) = (lead.length : Int) - 1 - ((k / 2 : Nat) : Int) by omega]; exact .subI _ _
      have t1 := sub_tx (getD_some (l := lead) (k := lead.length - 1 - k / 2) (d := 0) (by omega)) (by omega)
      have t2 := sub_tx (getD_some (l := lead) (k := k / 2) (d := 0) (by omega)) (by omega)
      have d2 := div2 (k := k)
      have m2 := mod2 (k := k)
      by_cases hm : k % 2 = 0
      · have c1 : CmpR .Eq (.d (.int ((k % 2 : Nat) : Int))) (.d (.int 0)) true := cmp_eqI (decide_eq_true (by rw [hm]; rfl))
        have p1 : partP lead (k + 1) = ((partP lead k).1, [lead.getD (lead.length - 1 - k / 2) 0] ++ (partP lead k).2) := by rw [partP_succ, partStep, if_pos hm]; rfl
        walk_at "mw"
        show _ ∧ _ ∧ At _ _ (.d (tx (partP lead (pre' ++ [k]).length).1)) ∧ At _ _ (.d (tx (partP lead (pre' ++ [k]).length).2))
        rw [e9, p1]
        refine ⟨?_, ?_, ?_, ?_⟩ <;> walk_at "ml"
      · have hm : k % 2 = 1 := by omega
        have c1 : CmpR .Eq (.d (.int ((k % 2 : Nat) : Int))) (.d (.int 0)) false := cmp_eqI (decide_eq_false (by rw [hm]; decide))
        have p1 : partP lead (k + 1) = ((partP lead k).1 ++ [lead.getD (k / 2) 0], (partP lead k).2) := by rw [partP_succ, partStep, if_neg (by omega)]
        walk_at "mw"
        show _ ∧ _ ∧ At _ _ (.d (tx (partP lead (pre' ++ [k]).length).1)) ∧ At _ _ (.d (tx (partP lead (pre' ++ [k]).length).2))
        rw [e9, p1]
        refine ⟨?_, ?_, ?_, ?_⟩ <;> walk_at "ml"
    · intro ρ' hi'
      obtain ⟨j1, j2, j3, j4⟩ := hi'
      rw [List.length_range] at j3 j4
      have s5 : short ((pre.map (partP lead)).map pairD).length = true := by
        rw [List.length_map, List.length_map, hpre, List.length_range]; exact short_of (by omega)
      walk_at "mw"
      show _ ∧ At _ _ (.own (((pre ++ [size]).map (partP lead)).map pairD))
      rw [List.map_append, List.map_append]
      refine ⟨?_, look_here⟩
      walk_at "ml"
  · intro ρ hi
    obtain ⟨i1, i2⟩ := hi
    unfold partsP
    walk_at "mw"
end
/-! ## _law_columns -/
noncomputable def colStep (size : Nat) (p c : Nat) : Nat := if c = 9 then p - p % size + size else p + 1
noncomputable def colP (size : Nat) (text : List Nat) : Nat := text.foldl (colStep size) 0
noncomputable def colsP (text : List Nat) (top : Nat) : List Nat := (List.range top).map fun k => colP (k + 1) text
noncomputable def natD (n : Nat) : PyData := .int (n : Int)
theorem colP_app {size : Nat} {pre : List Nat} {c : Nat} : colP size (pre ++ [c]) = colStep size (colP size pre) c := by
  unfold colP; rw [List.foldl_append]; rfl
theorem chr_ok {text pre post : List Nat} {c : Nat} (h : text.all okC = true) (e : text = pre ++ c :: post) : ([c] : List Nat).all okC = true := by
  rw [e, List.all_append, Bool.and_eq_true, List.all_cons, Bool.and_eq_true] at h
  simp [h.2.1]
theorem beq_one {a b : Nat} : (([a] : List Nat) == [b]) = (a == b) := by simp [BEq.beq, List.beq]
theorem cmp_eqT {a b : List Nat} {t : Bool} (h : (a == b) = t) (ha : a.all okC = true) (hb : b.all okC = true) : CmpR .Eq (.d (tx a)) (.d (tx b)) t := by
  have := CmpR.eq (eqOk_tx ha) (eqOk_tx hb)
  rw [eqv_tx, h] at this
  exact this
theorem cmp_one {c d : Nat} {t : Bool} (h : decide (c = d) = t) (hc : ([c] : List Nat).all okC = true) (hd : ([d] : List Nat).all okC = true) : CmpR .Eq (.d (tx [c])) (.d (tx [d])) t :=
  cmp_eqT (by rw [beq_one]; exact h) hc hd
theorem items_tx (a : List Nat) : ItemsR (.d (tx a)) (a.map fun c => V.d (tx [c])) := by
  have h := ItemsR.str (S a)
  rw [S_cps] at h
  exact h
theorem cmp_gtF {x y : Int} {t : Bool} (h : decide (y < x) = t) : CmpR .Gt (.d (.int x)) (.d (.int y)) t := h ▸ CmpR.gt x y
theorem cmp_ltF {x y : Int} {t : Bool} (h : decide (x < y) = t) : CmpR .Lt (.d (.int x)) (.d (.int y)) t := h ▸ CmpR.lt x y
theorem cmp_geF {x y : Int} {t : Bool} (h : decide (y ≤ x) = t) : CmpR .GtE (.d (.int x)) (.d (.int y)) t := h ▸ CmpR.ge x y
theorem cmp_leF {x y : Int} {t : Bool} (h : decide (x ≤ y) = t) : CmpR .LtE (.d (.int x)) (.d (.int y)) t := h ▸ CmpR.le x y
theorem addI_eq {x y z : Int} (h : x + y = z) : BinR .Add (.d (.int x)) (.d (.int y)) (.d (.int z)) := h ▸ .addI x y
theorem subI_eq {x y z : Int} (h : x - y = z) : BinR .Sub (.d (.int x)) (.d (.int y)) (.d (.int z)) := h ▸ .subI x y
section
variable {w : World} {K : Frag} {l : Nat}
theorem columns_bk (g2 : GOk K "range" (.fn (.type "range"))) {text : List Nat} {top : Nat} (hl : text.length ≤ 1000) (ht : top ≤ 1000) (hc : text.all okC = true) :
    VB w K l (fnSc (topSt 13)) [("columns", true)] [("text", .d (tx text)), ("top", .d (.int (top : Int)))] (fnBody (topSt 13)) (.ret (.d (.list ((colsP text top).map natD)))) := by
  conv => arg 7; whnf
  have e2 := items_rng1 (n := (top : Int) + 1) (by omega) (by omega)
  have e3 : ((top : Int) + 1 - 1).toNat = top := by omega
  rw [e3] at e2
  walk_at "mw"
  refine vb_for (fun pre ρ => At ρ "text" (.d (tx text)) ∧ At ρ "columns" (.own ((pre.map fun k => colP (k + 1) text).map natD))) succV (List.range top) (v := .rng 1 ((top : Int) + 1)) (fun _ _ => rfl) (.inl rfl) (by kernel_rfl) ?_ rfl e2 rfl ⟨?_, ?_⟩ ?_ ?_
  · walk_at "mw"
  · walk_at "ml"
  · exact look_here
  · intro pre k post ρ hxs hi
    obtain ⟨i1, i2⟩ := hi
    obtain ⟨hs, hpre⟩ := range_split hxs
    walk_at "mw"
    refine nx_for (fun pre' ρ => At ρ "text" (.d (tx text)) ∧ At ρ "columns" (.own ((pre.map fun k => colP (k + 1) text).map natD)) ∧ At ρ "size" (succV k) ∧ At ρ "place" (.d (.int ((colP (k + 1) pre' : Nat) : Int)))) (fun c => V.d (tx [c])) text (v := .d (tx text)) (fun _ _ => rfl) (.inl rfl) (by kernel_rfl) ?_ rfl (items_tx text) rfl ⟨?_, ?_, ?_, ?_⟩ ?_ ?_
    · walk_at "mw"
    · walk_at "ml"
    · walk_at "ml"
    · walk_at "ml"
    · show At _ _ (.d (.int 0)); walk_at "ml"
    · intro pre' c post' ρ' hxs' hi'
      obtain ⟨j1, j2, j3, j4⟩ := hi'
      have oc := chr_ok hc hxs'
      have hm : BinR .Mod (.d (.int ((colP (k + 1) pre' : Nat) : Int))) (succV k) (.d (.int ((colP (k + 1) pre' % (k + 1) : Nat) : Int))) := by
        have := BinR.modI (x := ((colP (k + 1) pre' : Nat) : Int)) (y := (k : Int) + 1) (by simp; omega)
        rw [Int.fmod_eq_emod_of_nonneg _ (by omega), show ((k : Int) + 1) = ((k + 1 : Nat) : Int) from by omega, ← Int.natCast_emod] at this
        exact this
      by_cases hc9 : c = 9
      · have c1 := cmp_one (d := 9) (decide_eq_true hc9) oc rfl
        have p1 : BinR .Add (.d (.int (((colP (k + 1) pre' : Nat) : Int) - ((colP (k + 1) pre' % (k + 1) : Nat) : Int)))) (succV k) (.d (.int ((colP (k + 1) (pre' ++ [c]) : Nat) : Int))) := addI_eq (by
          rw [colP_app, colStep, if_pos hc9]
          have := Nat.mod_le (colP (k + 1) pre') (k + 1)
          omega)
        walk_at "mw"
        refine ⟨?_, ?_, ?_, look_here⟩ <;> walk_at "ml"
      · have c1 := cmp_one (d := 9) (decide_eq_false hc9) oc rfl
        have p1 : BinR .Add (.d (.int ((colP (k + 1) pre' : Nat) : Int))) (.d (.int 1)) (.d (.int ((colP (k + 1) (pre' ++ [c]) : Nat) : Int))) := addI_eq (by rw [colP_app, colStep, if_neg hc9]; omega)
        walk_at "mw"
        refine ⟨?_, ?_, ?_, look_here⟩ <;> walk_at "ml"
    · intro ρ' hi'
      obtain ⟨j1, j2, j3, j4⟩ := hi'
      have s5 : short ((pre.map fun k => colP (k + 1) text).map natD).length = true := by
        rw [List.length_map, List.length_map, hpre, List.length_range]; exact short_of (by omega)
      walk_at "mw"
      show _ ∧ At _ _ (.own (((pre ++ [k]).map fun k => colP (k + 1) text).map natD))
      rw [List.map_append, List.map_append]
      refine ⟨?_, look_here⟩
      walk_at "ml"
  · intro ρ hi
    obtain ⟨i1, i2⟩ := hi
    unfold colsP
    walk_at "mw"
end

/-! ## joined texts -/
noncomputable def joinP (sep : List Nat) (ls : List (List Nat)) : List Nat := (ls.drop 1).foldl (fun acc p => acc ++ sep ++ p) (ls.headD [])
theorem glued_tx {sep : List Nat} (ls : List (List Nat)) : glued (S sep) (ls.map S) = S (joinP sep ls) := by
  have key : ∀ (ls : List (List Nat)) (acc : List Nat), (ls.map S).foldl (fun acc p => acc ++ (S sep).cps ++ p.cps) acc.toArray = (ls.foldl (fun acc p => acc ++ sep ++ p) acc).toArray := by
    intro ls
    induction ls with
    | nil => intro acc; rfl
    | cons p ls ih =>
      intro acc
      rw [List.map_cons, List.foldl_cons, List.foldl_cons, ← ih]
      congr 1
      simp [S]
  cases ls with
  | nil => rfl
  | cons l ls =>
    unfold glued
    show Str.mk (((l :: ls).map S).drop 1 |>.foldl _ _) = _
    have : ((l :: ls).map S).drop 1 = ls.map S := rfl
    rw [this]
    have : (((l :: ls).map S).headD Str.empty).cps = l.toArray := rfl
    rw [this, key]; rfl
theorem joinOk_of {sep : List Nat} {ls : List (List Nat)} (h : (ls.map List.length).sum + ls.length * sep.length ≤ 1000000) : JoinOk (S sep) (ls.map S) := by
  have key : ∀ (ls : List (List Nat)) (n : Nat), (ls.map S).foldl (fun a b => a + b.length + (S sep).length) n = n + ((ls.map List.length).sum + ls.length * sep.length) := by
    intro ls
    induction ls with
    | nil => intro n; simp
    | cons l ls ih =>
      intro n
      rw [List.map_cons, List.foldl_cons, ih, S_len, S_len, List.map_cons, List.sum_cons, List.length_cons, Nat.succ_mul]
      omega
  unfold JoinOk
  rw [List.foldl_toArray, key]
  unfold tooLong
  rw [sizeLine_eq]
  simp; omega
theorem meth_join {sep : List Nat} {ls : List (List Nat)} (h : JoinOk (S sep) (ls.map S)) : MethR (.d (tx sep)) (Str.ofString "join") [.d (.list (ls.map tx))] (.d (tx (joinP sep ls))) := by
  have m := MethR.join h
  rw [List.map_map] at m
  rw [show Txt.join (S sep) (ls.map S) = S (joinP sep ls) from glued_tx ls] at m
  exact m
noncomputable def splitP (a b : List Nat) : List (List Nat) := (Txt.split (S a) (S b)).map fun x => x.cps.toList
theorem S_cps' (x : Str) : S x.cps.toList = x := by
  obtain ⟨x⟩ := x
  simp [S]
theorem split_eq {a b : List Nat} : (Txt.split (S a) (S b)).map PyData.str = (splitP a b).map tx := by
  unfold splitP
  rw [List.map_map]
  apply List.map_congr_left
  intro x _
  show PyData.str x = PyData.str (S x.cps.toList)
  rw [S_cps']
theorem meth_split {a b : List Nat} (h1 : short a.length = true) (h2 : (b.length != 0) = true) (h3 : short (splitP a b).length = true) : MethR (.d (tx a)) (Str.ofString "split") [.d (tx b)] (.d (.list ((splitP a b).map tx))) := by
  have m := MethR.split (x := S a) (y := S b) (by rw [S_len]; exact h1) (by rw [S_len]; exact h2) (by unfold splitP at h3; rw [List.length_map] at h3; exact h3)
  rw [split_eq] at m
  exact m

/-! ## _law_letters -/
noncomputable def letP (c : Nat) : Nat := if c = 32 then 97 else 99
theorem join_ones {text : List Nat} (f : Nat → Nat) : joinP [] (text.map fun c => [f c]) = text.map f := by
  cases text with
  | nil => rfl
  | cons x r =>
    have key : ∀ (r : List Nat) (acc : List Nat), (r.map fun c => [f c]).foldl (fun acc p => acc ++ [] ++ p) acc = acc ++ r.map f := by
      intro r
      induction r with
      | nil => intro acc; simp
      | cons y r ih => intro acc; rw [List.map_cons, List.foldl_cons, ih]; simp
    show (r.map fun c => [f c]).foldl _ [f x] = _
    rw [key]; rfl
section
variable {w : World} {K : Frag} {l : Nat}
theorem letters_bk {text : List Nat} (hl : text.length ≤ 1000) (hc : text.all okC = true) :
    VB w K l (fnSc (topSt 14)) [] [("text", .d (tx text))] (fnBody (topSt 14)) (.ret (.d (tx (text.map letP)))) := by
  conv => arg 7; whnf
  have e1 : short text.length = true := short_of (by omega)
  have e5 : JoinOk (S []) ((text.map fun c => [letP c]).map S) := by
    apply joinOk_of
    have : ∀ l : List Nat, ((l.map fun c => [letP c]).map List.length).sum = l.length := by
      intro l
      induction l with
      | nil => rfl
      | cons x l ih => rw [List.map_cons, List.map_cons, List.sum_cons, ih]; simp; omega
    rw [this]; simp; omega
  have m := meth_join e5
  rw [join_ones, List.map_map] at m
  walk_at "mw"
  refine vc_map (fun c => V.d (tx [c])) (fun c => tx [letP c]) ⟨rfl, by kernel_rfl, by kernel_rfl⟩ (fun _ _ => rfl) ?_ rfl (items_tx text) rfl (by kernel_rfl) e1 ?_
  · walk_at "mw"
  · intro x hx
    have oc : ([x] : List Nat).all okC = true := by simp [List.all_eq_true.mp hc x hx]
    by_cases h : x = 32
    · have c1 := cmp_one (d := 32) (decide_eq_true h) oc rfl
      rw [letP, if_pos h]
      walk_at "mw"
    · have c1 := cmp_one (d := 32) (decide_eq_false h) oc rfl
      rw [letP, if_neg h]
      walk_at "mw"
end

/-! ## _law_fits -/
noncomputable def fitsP (f b t : List Nat) : Bool := if t.length < f.length + b.length then false else (t.take f.length == f) && (t.drop (t.length - b.length) == b)
theorem all_take {t : List Nat} {n : Nat} (h : t.all okC = true) : (t.take n).all okC = true := List.all_eq_true.mpr fun x m => List.all_eq_true.mp h x (List.mem_of_mem_take m)
theorem all_drop {t : List Nat} {n : Nat} (h : t.all okC = true) : (t.drop n).all okC = true := List.all_eq_true.mpr fun x m => List.all_eq_true.mp h x (List.mem_of_mem_drop m)
section
variable {w : World} {K : Frag} {l : Nat}
theorem fits_bk (g1 : GOk K "len" (.fn (.builtin "len"))) {f b t : List Nat} (h1 : f.length ≤ 1000) (h2 : b.length ≤ 1000) (h3 : t.length ≤ 1000) (o1 : f.all okC = true) (o2 : b.all okC = true) (o3 : t.all okC = true) :
    VB w K l (fnSc (topSt 15)) [] [("front", .d (tx f)), ("back", .d (tx b)), ("text", .d (tx t))] (fnBody (topSt 15)) (.ret (.d (.bool (fitsP f b t)))) := by
  conv => arg 7; whnf
  have s1 : short f.length = true := short_of (by omega)
  have s2 : short b.length = true := short_of (by omega)
  have s3 : short t.length = true := short_of (by omega)
  by_cases h : t.length < f.length + b.length
  · have c1 : CmpR .Lt (.d (.int (t.length : Int))) (.d (.int ((f.length : Int) + (b.length : Int)))) true := cmp_ltF (decide_eq_true (by omega))
    rw [fitsP, if_pos h]
    refine vb_ret (vs_ifT ?_ ?_)
    · walk_at "mw"
    · walk_at "mw"
  · have c1 : CmpR .Lt (.d (.int (t.length : Int))) (.d (.int ((f.length : Int) + (b.length : Int)))) false := cmp_ltF (decide_eq_false (by omega))
    have q1 : SliceR (.d (tx t)) none (some (f.length : Int)) (.d (tx (t.take f.length))) := by
      have := slice_txR (a := t) (l := none) (u := some (f.length : Int)) s3
      rw [cut_hi (by omega), Int.toNat_natCast] at this; exact this
    have q2 : SliceR (.d (tx t)) (some ((t.length : Int) - (b.length : Int))) none (.d (tx (t.drop (t.length - b.length)))) := by
      have := slice_txR (a := t) (l := some ((t.length : Int) - (b.length : Int))) (u := none) s3
      rw [cut_lo (by omega), show ((t.length : Int) - (b.length : Int)).toNat = t.length - b.length by omega] at this; exact this
    have p3 := cmp_eqT (rfl : (t.take f.length == f) = _) (all_take o3) o1
    have p4 := cmp_eqT (rfl : (t.drop (t.length - b.length) == b) = _) (all_drop o3) o2
    rw [fitsP, if_neg h]
    refine vb_cons (vs_ifF ?_ vb_nil) (vb_ret (vs_return ?_))
    · walk_at "mw"
    · cases hq : (t.take f.length == f) with
      | true =>
        rw [hq] at p3
        rw [Bool.true_and]
        refine ve_andT ?_ ?_
        · walk_at "mw"
        · walk_at "mw"
      | false =>
        rw [hq] at p3
        refine ve_andF ?_
        walk_at "mw"
end
/-! ## _law_parted -/
noncomputable def partedP (bs : List Bool) : List Nat × List Nat := ((List.range bs.length).filter fun i => bs.getD i false, (List.range bs.length).filter fun i => !bs.getD i false)
noncomputable def natsD (l : List Nat) : PyData := .list (l.map natD)
noncomputable def partedD (p : List Nat × List Nat) : PyData := .tuple [natsD p.1, natsD p.2]
theorem getD_map {α : Type} {l : List α} {f : α → PyData} {i : Nat} {d : α} (h : i < l.length) : (l.map f)[i]? = some (f (l.getD i d)) := by
  rw [List.getElem?_map, List.getD_eq_getElem?_getD, List.getElem?_eq_getElem h]
  rfl
section
variable {w : World} {K : Frag} {l : Nat} {sc : Sc} {ow : List (Str × Bool)} {test : Expr} {body rest : List Stmt} {pos : Pos}
theorem parted_bk (g1 : GOk K "len" (.fn (.builtin "len"))) (g2 : GOk K "range" (.fn (.type "range"))) {bs : List Bool} (hl : bs.length ≤ 1000) :
    VB w K l (fnSc (topSt 16)) [] [("answers", .d (.list (bs.map .bool)))] (fnBody (topSt 16)) (.ret (.d (partedD (partedP bs)))) := by
  conv => arg 7; whnf
  have e2 := items_rng0 (n := bs.length) (by omega)
  have s1 : short (List.range bs.length).length = true := short_of (by rw [List.length_range]; omega)
  have n1 : CallOk w K l (.fn (.builtin "len")) [.d (.list (bs.map .bool))] (natV bs.length) := by
    have := len_call (w := w) (K := K) (l := l) (LenR.list (ListR.d (bs.map PyData.bool))) (short_of (by rw [List.length_map]; omega))
    rw [List.length_map] at this; exact this
  have t1 : ∀ i ∈ List.range bs.length, SubR (.d (.list (bs.map .bool))) (i : Int) (.d (.bool (bs.getD i false))) := fun i hi => sub_list (.d _) (getD_map (f := PyData.bool) (d := false) (List.mem_range.mp hi)) (by rw [List.length_map]; omega)
  refine vb_cons (vs_comp (by kernel_rfl) (vc_filter natV natD (fun i => bs.getD i false) ⟨rfl, by kernel_rfl, by kernel_rfl⟩ (fun _ _ => rfl) (v0 := .rng 0 (bs.length : Int)) ?_ rfl e2 rfl (by kernel_rfl) s1 (fun i hi => ?_) fun i hi _ => ?_) rfl) ?_
  · walk_at "mw"
  · have t2 := t1 i hi
    walk_at "mw"
  · unfold natD
    walk_at "mw"
  refine vb_cons (vs_comp (by kernel_rfl) (vc_filter natV natD (fun i => !bs.getD i false) ⟨rfl, by kernel_rfl, by kernel_rfl⟩ (fun _ _ => rfl) (v0 := .rng 0 (bs.length : Int)) ?_ rfl e2 rfl (by kernel_rfl) s1 (fun i hi => ?_) fun i hi _ => ?_) rfl) ?_
  · walk_at "mw"
  · have t2 := t1 i hi
    walk_at "mw"
  · unfold natD
    walk_at "mw"
  unfold partedD partedP natsD
  walk_at "mw"

/-! ## replace -/
theorem whileR_ind (I : Nat → Rho → Prop) (J : Rho → Prop) (hs : ∀ n ρ, I (n + 1) ρ → VT w K l sc ρ test true ∧ Nx w K l sc ow ρ body (I n)) (h0 : ∀ ρ, I 0 ρ → VT w K l sc ρ test false ∧ J ρ) (n : Nat) : ∀ ρ, I n ρ → ∃ ρ', WhileR w K l sc ow test body (n + 1) ρ (.nx ρ') ∧ J ρ' := by
  induction n with
  | zero => intro ρ i; obtain ⟨a, b⟩ := h0 ρ i; exact ⟨ρ, .done a.h, b⟩
  | succ n ih =>
    intro ρ i
    obtain ⟨a, ρ1, b, c⟩ := hs n ρ i
    obtain ⟨ρ', d, e⟩ := ih ρ1 c
    exact ⟨ρ', .next a.h b.h d, e⟩
theorem vb_while {ρ : Rho} {r : Fl} (I : Nat → Rho → Prop) (J : Rho → Prop) (n : Nat) (hi : I n ρ) (hs : ∀ n ρ, I (n + 1) ρ → VT w K l sc ρ test true ∧ Nx w K l sc ow ρ body (I n)) (h0 : ∀ ρ, I 0 ρ → VT w K l sc ρ test false ∧ J ρ) (hk : ∀ ρ, J ρ → VB w K l sc ow ρ rest r) :
    VB w K l sc ow ρ (.While test body [] pos :: rest) r :=
  let ⟨ρ', a, b⟩ := whileR_ind I J hs h0 n ρ hi
  vb_cons ⟨st_while a⟩ (hk ρ' b)
end
noncomputable def replStep (t p q : List Nat) : Option (List Nat) := if short t.length = true ∧ (p.length != 0) = true ∧ short (splitP t p).length = true ∧ JoinOk (S q) ((splitP t p).map S) = true then some (joinP q (splitP t p)) else none
noncomputable def replP : List (List Nat) → List Nat → Option (List Nat)
  | [], t => some t
  | [_], _ => none
  | p :: q :: r, t => (replStep t p q).bind (replP r)
theorem repl_even {r : List Nat} : ∀ (n : Nat) (ps : List (List Nat)) (t : List Nat), ps.length ≤ n → replP ps t = some r → ps.length = 2 * (ps.length / 2) := by
  intro n
  induction n with
  | zero => intro ps t h _; omega
  | succ n ih =>
    intro ps t h hr
    cases ps with
    | nil => rfl
    | cons p ps =>
      cases ps with
      | nil => cases hr
      | cons q ps =>
        obtain ⟨u, _, hr⟩ := Option.bind_eq_some_iff.mp hr
        have := ih ps u (by simp at h; omega) hr
        simp only [List.length_cons]; omega
theorem sub_tuple {xs : List PyData} {k : Nat} {d : PyData} (h : xs[k]? = some d) (hs : xs.length ≤ 1000000) : SubR (.d (.tuple xs)) (k : Int) (.d d) := by
  have hk : k < xs.length := (List.getElem?_eq_some_iff.mp h).1
  exact .tuple (small_nat (by omega)) (aIdx_nat hk) h
section
variable {w : World} {K : Frag} {l : Nat}
theorem replace_bk {ps : List (List Nat)} {t r : List Nat} (hl : ps.length ≤ 16) (hr : replP ps t = some r) :
    VB w K l (fnSc (topSt 2)) [] [("text", .d (tx t)), ("pairs", .d (.tuple (ps.map tx)))] (fnBody (topSt 2)) (.ret (.d (tx r))) := by
  conv => arg 7; whnf
  refine vb_while (fun n ρ => ∃ t ps, ps.length = 2 * n ∧ ps.length ≤ 16 ∧ replP ps t = some r ∧ At ρ "text" (.d (tx t)) ∧ At ρ "pairs" (.d (.tuple (ps.map tx)))) (fun ρ => At ρ "text" (.d (tx r))) (ps.length / 2) ⟨t, ps, repl_even _ ps t (Nat.le_refl _) hr, hl, hr, ?_, ?_⟩ ?_ ?_ ?_
  · walk_at "ml"
  · walk_at "ml"
  · rintro n ρ ⟨t, ps, h1, h2, h3, i1, i2⟩
    cases ps with
    | nil => simp at h1
    | cons p ps =>
      cases ps with
      | nil => simp at h1; omega
      | cons q ps =>
        have hlen : ((p :: q :: ps).map tx).length ≤ 16 := by rw [List.length_map]; exact h2
        have s1 : TruthR (.d (.tuple ((p :: q :: ps).map tx))) true := .tuple (short_of (by omega))
        obtain ⟨u, hu, h5⟩ := Option.bind_eq_some_iff.mp (show (replStep t p q).bind (replP ps) = some r from h3)
        unfold replStep at hu
        split at hu
        · rename_i hc
          cases hu
          obtain ⟨c1, c2, c3, c4⟩ := hc
          have t0 : SubR (.d (.tuple ((p :: q :: ps).map tx))) 0 (.d (tx p)) := sub_tuple (k := 0) rfl (by omega)
          have t1 : SubR (.d (.tuple ((p :: q :: ps).map tx))) 1 (.d (tx q)) := sub_tuple (k := 1) rfl (by omega)
          have t2 : SliceR (.d (.tuple ((p :: q :: ps).map tx))) (some 2) none (.d (.tuple (ps.map tx))) := .tuple (l := 2) (by decide) (by simp; omega) (short_of (by omega))
          have m1 := meth_split c1 c2 c3
          have m2 := meth_join c4
          refine ⟨?_, ?_⟩
          · walk_at "mw"
          · walk_at "mw"
            refine ⟨joinP q (splitP t p), ps, by simp at h1 ⊢; omega, by simp at h2; omega, h5, ?_, ?_⟩ <;> walk_at "ml"
        · cases hu
  · rintro ρ ⟨t, ps, h1, h2, h3, i1, i2⟩
    have : ps = [] := List.length_eq_zero_iff.mp (by omega)
    subst this
    cases h3
    have s1 : TruthR (.d (.tuple (([] : List (List Nat)).map tx))) false := .tuple (xs := []) rfl
    refine ⟨?_, i1⟩
    walk_at "mw"
  · intro ρ i1
    walk_at "mw"
end
/-! ## texts within texts -/
theorem sub_at {t f : List Nat} {i : Nat} : subAt (S t) (S f) i = ((t.drop i).take f.length == f) := by
  rw [StrLaws.subAt_eq]
  simp only [S_cps, S_len]
theorem find_nil {g : List Nat} {a b : Nat} (h : a ≤ b) (h' : b ≤ g.length) : findIn4 (S g) (S []) (a : Int) (b : Int) = (a : Int) := by
  have key : ∀ (l : List Nat) (st : Array Nat × Nat), st.1.size = 1 → (forIn l st (StrLaws.occBody (S g) (S []) b 1)).run.fst = st.1 := by
    intro l
    induction l with
    | nil => intro st h; rfl
    | cons i l ih =>
      intro st h
      rw [List.forIn_cons]
      unfold StrLaws.occBody
      rw [if_neg (by rw [h]; omega)]
      exact ih (st.1, st.2) h
  have e : occurrences (S g) (S []) a b 1 = [a] := by
    rw [StrLaws.occ_eq]
    have : List.range' a (b + 1 - a) = a :: List.range' (a + 1) (b - a) := by
      rw [show b + 1 - a = (b - a) + 1 from by omega]; rfl
    rw [this, List.forIn_cons]
    have h0 : StrLaws.occBody (S g) (S []) b 1 a (#[], a) = pure (ForInStep.yield ((#[] : Array Nat).push a, a + (S []).length)) := by
      unfold StrLaws.occBody
      rw [if_pos]
      refine ⟨⟨⟨by simp, Nat.le_refl _⟩, by rw [S_len]; simpa using h⟩, ?_⟩
      rw [sub_at]; simp
    rw [h0]
    show (forIn (List.range' (a + 1) (b - a)) (#[a], a + (S []).length) (StrLaws.occBody (S g) (S []) b 1)).run.fst.toList = [a]
    rw [key _ _ rfl]
  unfold findIn4
  rw [S_len, Int.toNat_natCast, Int.toNat_natCast, Nat.min_eq_left h', e]
theorem starts_tx {t f : List Nat} : Txt.startswith (S t) (S f) = (decide (f.length ≤ t.length) && (t.take f.length == f)) := by
  unfold Txt.startswith
  rw [S_len, S_len, sub_at, List.drop_zero, Nat.zero_add]
theorem ends_tx {t f : List Nat} : Txt.endswith (S t) (S f) = (decide (f.length ≤ t.length) && (t.drop (t.length - f.length) == f)) := by
  unfold Txt.endswith
  rw [S_len, S_len, sub_at, Nat.zero_add]
  by_cases h : f.length ≤ t.length
  · rw [List.take_of_length_le (by rw [List.length_drop]; omega)]
  · simp [h]
section
variable {a b : List Nat}
noncomputable def startP (a b : List Nat) : Bool := decide (b.length ≤ a.length) && (a.take b.length == b)
noncomputable def endP (a b : List Nat) : Bool := decide (b.length ≤ a.length) && (a.drop (a.length - b.length) == b)
theorem meth_starts {t : Bool} (h : startP a b = t) : MethR (.d (tx a)) (Str.ofString "startswith") [.d (tx b)] (.d (.bool t)) := by
  rw [← h, startP, ← starts_tx]; exact .starts _ _
theorem meth_ends {t : Bool} (h : endP a b = t) : MethR (.d (tx a)) (Str.ofString "endswith") [.d (tx b)] (.d (.bool t)) := by
  rw [← h, endP, ← ends_tx]; exact .ends _ _
theorem meth_find {x y : Nat} (h : x ≤ y) (h' : y ≤ a.length) : MethR (.d (tx a)) (Str.ofString "find") [.d (tx []), natV x, natV y] (natV x) := by
  have m := MethR.find (x := S a) (y := S []) (a := (x : Int)) (b := (y : Int)) (by omega) (by omega)
  rw [find_nil h h'] at m
  exact m
theorem truth_tx (h : short a.length = true) {t : Bool} (e : (a.length != 0) = t) : TruthR (.d (tx a)) t := by
  rw [← e, ← S_len (l := a)]
  exact .str (S_len.symm ▸ h)
noncomputable def hasP (p t : List Nat) : Bool := !(occurrences (S t) (S p) 0 (S t).length 1).isEmpty
theorem cmp_notin {t : Bool} (h : hasP a b = !t) : CmpR .NotIn (.d (tx a)) (.d (tx b)) t := by
  have c := CmpR.notIn (S a) (S b)
  have e : (occurrences (S b) (S a) 0 (S b).length 1).isEmpty = t := by unfold hasP at h; cases t <;> simpa using h
  rw [e] at c
  exact c
end

/-! ## _ellipsis_match -/
section
variable {w : World} {K : Frag} {l : Nat}
noncomputable abbrev ellS (n : Nat) : List Stmt := (fnBody (topSt 7)).drop n
theorem ell_plain (g3 : GOk K "ELLIPSIS_MARKER" (.d (tx [46, 46, 46]))) {wt g : List Nat} (hw : hasP [46, 46, 46] wt = false) (o1 : wt.all okC = true) (o2 : g.all okC = true) :
    VB w K l (fnSc (topSt 7)) [("ws", false)] [("want", .d (tx wt)), ("got", .d (tx g))] (fnBody (topSt 7)) (.ret (.d (.bool (wt == g)))) := by
  conv => arg 7; whnf
  have c1 := cmp_notin (t := true) hw
  have c2 := cmp_eqT (rfl : (wt == g) = _) o1 o2
  refine vb_ret (vs_ifT ?_ ?_)
  · walk_at "mw"
  · walk_at "mw"
theorem ell_3 (g1 : GOk K "len" (.fn (.builtin "len"))) {g : List Nat} {ρ : Rho} {n a e : Nat} (hg : e ≤ g.length) (hl : g.length ≤ 1000) (i1 : At ρ "ws" (.own (List.replicate n (tx [])))) (i2 : At ρ "got" (.d (tx g))) (i3 : At ρ "startpos" (natV a)) (i4 : At ρ "endpos" (natV e)) :
    VB w K l (fnSc (topSt 7)) [("ws", false)] ρ (ellS 8) (.ret (.d (.bool (decide (a ≤ e))))) := by
  conv => arg 7; whnf
  by_cases h : a ≤ e
  · have c1 : CmpR .Gt (natV a) (natV e) false := cmp_gtF (decide_eq_false (by omega))
    rw [decide_eq_true h]
    refine vb_cons (vs_ifF ?_ vb_nil) ?_
    · walk_at "mw"
    refine vb_for (fun _ ρ => At ρ "got" (.d (tx g)) ∧ At ρ "startpos" (natV a) ∧ At ρ "endpos" (natV e)) (fun _ => V.d (tx [])) (List.range n) (v := .d (.list (List.replicate n (tx [])))) (ρ0 := frz ρ) (fun _ _ => rfl) (.inr rfl) (by kernel_rfl) ?_ rfl (.list _) ?_ ⟨?_, ?_, ?_⟩ ?_ ?_
    · walk_at "mw"
    · rw [List.map_replicate, List.map_const', List.length_range]
    · walk_at "ml"
    · walk_at "ml"
    · walk_at "ml"
    · intro pre k post ρ' _ hi
      obtain ⟨j1, j2, j3⟩ := hi
      have m := meth_find (a := g) h hg
      have c2 : CmpR .Lt (natV a) (.d (.int 0)) false := cmp_ltF (decide_eq_false (by omega))
      walk_at "mw"
      refine ⟨?_, look_here, ?_⟩ <;> walk_at "ml"
    · intro ρ' _
      walk_at "mw"
  · have c1 : CmpR .Gt (natV a) (natV e) true := cmp_gtF (decide_eq_true (by omega))
    rw [decide_eq_false h]
    refine vb_ret (vs_ifT ?_ ?_)
    · walk_at "mw"
    · walk_at "mw"
theorem seqIdx_last {n : Nat} : seqIndex? (-1) (n + 1) = some n := by
  unfold seqIndex?
  simp; omega
theorem ell_2 (g1 : GOk K "len" (.fn (.builtin "len"))) {g b : List Nat} {ρ : Rho} {n a : Nat} (hn : n ≤ 1) (hb : b.length ≤ 1000) (hl : g.length ≤ 1000) (i1 : At ρ "ws" (.own (List.replicate n (tx []) ++ [tx b]))) (i2 : At ρ "got" (.d (tx g))) (i3 : At ρ "startpos" (natV a)) (i4 : At ρ "endpos" (natV g.length)) :
    VB w K l (fnSc (topSt 7)) [("ws", false)] ρ (ellS 6) (.ret (.d (.bool (endP g b && decide (a + b.length ≤ g.length))))) := by
  conv => arg 7; whnf
  have s3 : short b.length = true := short_of (by omega)
  have hlen : (List.replicate n (tx []) ++ [tx b]).length = n + 1 := by simp
  have t1 : SubR (.own (List.replicate n (tx []) ++ [tx b])) (-1) (.d (tx b)) := by
    refine .list (.own _) rfl (k := n) ?_ ?_
    · rw [hlen]; unfold aIdx; rw [if_neg (by omega), if_pos (by omega)]; congr 1; omega
    · rw [List.getElem?_append_right (by simp)]; simp
  refine vb_cons (vs_name (fun _ _ => rfl) (by kernel_rfl) (ve_sub (ve_name (by kernel_rfl) (by kernel_rfl) i1) (ve_neg ve_int) t1) rfl) ?_
  by_cases hb0 : b = []
  · subst hb0
    have z : TruthR (.d (tx [])) false := truth_tx rfl rfl
    have e1 : endP g [] = true := by simp [endP]
    have e2 : List.replicate n (tx []) ++ [tx []] = List.replicate (n + 1) (tx []) := by rw [List.replicate_succ']
    rw [e2] at i1
    rw [e1, Bool.true_and, List.length_nil, Nat.add_zero]
    refine vb_cons (vs_ifF ?_ vb_nil) ?_
    · walk_at "mw"
    · refine ell_3 (n := n + 1) (a := a) (e := g.length) g1 (Nat.le_refl _) hl ?_ ?_ ?_ ?_ <;> walk_at "ml"
  · have z : TruthR (.d (tx b)) true := truth_tx s3 (by simp [hb0])
    cases hy : endP g b with
    | true =>
      have m := meth_ends hy
      have hle : b.length ≤ g.length := by unfold endP at hy; rw [Bool.and_eq_true] at hy; exact of_decide_eq_true hy.1
      rw [Bool.true_and, show decide (a + b.length ≤ g.length) = decide (a ≤ g.length - b.length) from decide_eq_decide.mpr (by omega)]
      refine vb_cons (vs_ifT ?_ (vb_last (vs_ifT ?_ (vb_cons (vs_aug (i := (g.length : Int)) (j := (b.length : Int)) (k := ((g.length - b.length : Nat) : Int)) (.inr ⟨rfl, by omega⟩) (by kernel_rfl) (by kernel_rfl) ?_ ?_) (vb_last (vs_del (n := n) (xs := List.replicate n (tx []) ++ [tx b]) (by kernel_rfl) (by kernel_rfl) (by kernel_rfl) ?_ (ve_neg ve_int) (short_of (by rw [hlen]; omega)) rfl (by rw [hlen]; exact seqIdx_last))))))) ?_
      · walk_at "mw"
      · walk_at "mw"
      · walk_at "ml"
      · walk_at "mw"
      · walk_at "ml"
      · have e3 : (List.replicate n (tx []) ++ [tx b]).eraseIdx n = List.replicate n (tx []) := by
          rw [List.eraseIdx_append_of_length_le (by simp)]; simp
        rw [e3]
        refine ell_3 (n := n) (a := a) (e := g.length - b.length) g1 (Nat.sub_le _ _) hl ?_ ?_ ?_ ?_ <;> walk_at "ml"
    | false =>
      have m := meth_ends hy
      rw [Bool.false_and]
      refine vb_ret (vs_ifT ?_ (vb_last (vs_ifF ?_ ?_)))
      · walk_at "mw"
      · walk_at "mw"
      · walk_at "mw"
theorem ell_dots (g1 : GOk K "len" (.fn (.builtin "len"))) (g3 : GOk K "ELLIPSIS_MARKER" (.d (tx [46, 46, 46]))) {wt f b g : List Nat} (hw : hasP [46, 46, 46] wt = true) (hs : splitP wt [46, 46, 46] = [f, b]) (l1 : wt.length ≤ 1000) (l2 : f.length ≤ 1000) (l3 : b.length ≤ 1000) (l4 : g.length ≤ 1000) :
    VB w K l (fnSc (topSt 7)) [("ws", false)] [("want", .d (tx wt)), ("got", .d (tx g))] (fnBody (topSt 7)) (.ret (.d (.bool (fitsP f b g)))) := by
  conv => arg 7; whnf
  have s1 : short wt.length = true := short_of (by omega)
  have s2 : short f.length = true := short_of (by omega)
  have s4 : short g.length = true := short_of (by omega)
  have m1 : MethR (.d (tx wt)) (Str.ofString "split") [.d (tx [46, 46, 46])] (.d (.list [tx f, tx b])) := by
    have m := meth_split (a := wt) (b := [46, 46, 46]) s1 rfl (by rw [hs]; rfl)
    rw [hs] at m; exact m
  have c1 := cmp_notin (t := false) hw
  have n2 : CallOk w K l (.fn (.builtin "len")) [.own [tx f, tx b]] (natV 2) := len_call (LenR.list (ListR.own [tx f, tx b])) rfl
  have c2 : CmpR .GtE (natV 2) (.d (.int 2)) true := cmp_geF rfl
  have fits : fitsP f b g = (startP g f && (endP g b && decide (f.length + b.length ≤ g.length))) := by
    unfold fitsP startP endP
    by_cases h : g.length < f.length + b.length
    · rw [if_pos h, decide_eq_false (by omega : ¬ f.length + b.length ≤ g.length), Bool.and_false, Bool.and_false]
    · rw [if_neg h, decide_eq_true (by omega : f.length + b.length ≤ g.length), decide_eq_true (by omega : f.length ≤ g.length), decide_eq_true (by omega : b.length ≤ g.length), Bool.true_and, Bool.true_and, Bool.and_true]
  rw [fits]
  refine vb_cons (vs_ifF ?_ vb_nil) (vb_cons (vs_own (xs := [tx f, tx b]) (fun _ _ => rfl) (by kernel_rfl) (by kernel_rfl) rfl ?_ rfl) (vb_cons (vs_assert ?_) ?_))
  · walk_at "mw"
  · walk_at "mw"
  · walk_at "mw"
  have t0 : SubR (.own [tx f, tx b]) 0 (.d (tx f)) := sub_list (k := 0) (.own _) rfl (by simp)
  refine vb_cons (vs_tuple (d1 := .int 0) (d2 := .int (g.length : Int)) (fun _ _ => rfl) (swapped_two rfl (ne_of_beq_false (by kernel_rfl))) (by kernel_rfl) (by kernel_rfl) (by kernel_rfl) ?_) ?_
  · walk_at "mw"
  refine vb_cons (vs_name (v := .d (tx f)) (fun _ _ => rfl) (by kernel_rfl) ?_ rfl) ?_
  · walk_at "mw"
  by_cases hf : f = []
  · subst hf
    have z : TruthR (.d (tx [])) false := truth_tx rfl rfl
    have e1 : startP g [] = true := by simp [startP]
    rw [e1, Bool.true_and]
    refine vb_cons (vs_ifF ?_ vb_nil) ?_
    · walk_at "mw"
    · refine ell_2 (n := 1) (a := 0) g1 (Nat.le_refl _) l3 l4 ?_ ?_ ?_ ?_
      · show At _ _ (.own [tx [], tx b]); walk_at "ml"
      · walk_at "ml"
      · show At _ _ (.d (.int 0)); walk_at "ml"
      · walk_at "ml"
  · have z : TruthR (.d (tx f)) true := truth_tx s2 (by simp [hf])
    cases hx : startP g f with
    | true =>
      have m := meth_starts hx
      rw [Bool.true_and]
      refine vb_cons (vs_ifT ?_ (vb_last (vs_ifT ?_ (vb_cons (vs_name (v := natV f.length) (fun _ _ => rfl) (by kernel_rfl) ?_ rfl) (vb_last (vs_del (n := 0) (xs := [tx f, tx b]) (by kernel_rfl) (by kernel_rfl) (by kernel_rfl) ?_ ve_int rfl rfl rfl)))))) ?_
      · walk_at "mw"
      · walk_at "mw"
      · walk_at "mw"
      · walk_at "ml"
      · refine ell_2 (n := 0) (a := f.length) g1 (Nat.zero_le _) l3 l4 ?_ ?_ ?_ ?_
        · show At _ _ (.own [tx b]); exact look_here
        · walk_at "ml"
        · walk_at "ml"
        · walk_at "ml"
    | false =>
      have m := meth_starts hx
      rw [Bool.false_and]
      refine vb_ret (vs_ifT ?_ (vb_last (vs_ifF ?_ ?_)))
      · walk_at "mw"
      · walk_at "mw"
      · walk_at "mw"
end
/-! ## the fields of a Whitespace, in natural numbers -/
abbrev NS := List Nat × Nat × Nat × Nat
noncomputable def grow (count : List Nat) (b : Nat) : List Nat := if b ≥ count.length then count ++ List.replicate (b - count.length + 1) 0 else count
noncomputable def nStep (st : NS) (c : Nat) : NS := if c = 32 then (st.1, st.2.1 + 1, st.2.2.1 + 1, st.2.2.2) else ((grow st.1 st.2.1).set st.2.1 ((grow st.1 st.2.1).getD st.2.1 0 + 1), 0, st.2.2.1 + 1, st.2.2.2 + 1)
noncomputable def blank (c : Nat) : Bool := c == 32 || c == 9
noncomputable def nOf (l : List Nat) : NS := (l.takeWhile blank).foldl nStep ([], 0, 0, 0)
noncomputable def castS (st : NS) : WS := (st.1.map (fun n : Nat => (n : Int)), (st.2.1 : Int), (st.2.2.1 : Int), (st.2.2.2 : Int))
theorem cast_getD {l : List Nat} {b : Nat} : (l.map (fun n : Nat => (n : Int))).getD b 0 = ((l.getD b 0 : Nat) : Int) := by
  rw [List.getD_eq_getElem?_getD, List.getD_eq_getElem?_getD, List.getElem?_map]
  cases l[b]? <;> rfl
theorem ws_go (cs : List Nat) : ∀ (st : NS), wsGo cs (castS st) = castS ((cs.takeWhile blank).foldl nStep st) := by
  induction cs with
  | nil => intro st; rfl
  | cons c cs ih =>
    rintro ⟨count, b, n, nt⟩
    by_cases h : c = 32
    · have hb : blank c = true := by rw [h]; rfl
      rw [List.takeWhile_cons_of_pos hb, List.foldl_cons, ← ih]
      show (if c = 32 then wsGo cs _ else _) = _
      rw [if_pos h, nStep, if_pos h]
      rfl
    · by_cases h' : c = 9
      · have hb : blank c = true := by rw [h']; rfl
        rw [List.takeWhile_cons_of_pos hb, List.foldl_cons, ← ih]
        show (if c = 32 then _ else if c = 9 then wsGo cs _ else _) = _
        rw [if_neg h, if_pos h', nStep, if_neg h]
        congr 1
        have e1 : (if (b : Int) ≥ ((count.map (fun n : Nat => (n : Int))).length : Int) then (count.map (fun n : Nat => (n : Int))) ++ List.replicate ((b : Int) - ((count.map (fun n : Nat => (n : Int))).length : Int) + 1).toNat 0 else (count.map (fun n : Nat => (n : Int)))) = (grow count b).map (fun n : Nat => (n : Int)) := by
          unfold grow
          rw [List.length_map]
          by_cases hg : b ≥ count.length
          · rw [if_pos (by omega), if_pos hg, List.map_append, List.map_replicate]
            congr 2; omega
          · rw [if_neg (by omega), if_neg hg]
        show (List.set (if (b : Int) ≥ ((count.map (fun n : Nat => (n : Int))).length : Int) then _ else _) (b : Int).toNat _, (0 : Int), (n : Int) + 1, (nt : Int) + 1) = _
        rw [e1, Int.toNat_natCast, cast_getD]
        unfold castS
        rw [List.map_set]
        rfl
      · have hb : blank c = false := by simp [blank, h, h']
        rw [List.takeWhile_cons_of_neg (by simp [hb])]
        show (if c = 32 then _ else if c = 9 then _ else _) = _
        rw [if_neg h, if_neg h']; rfl
theorem wsOf_eq {l : List Nat} : wsOf (S l) = castS (nOf l) := by
  unfold wsOf nOf
  rw [S_cps, ← ws_go]; rfl
noncomputable def intsD (l : List Nat) : List PyData := l.map natD
noncomputable def normD (l : List Nat) : PyData := .tuple [.tuple (intsD (nOf l).1), natD (nOf l).2.1]
theorem wsFields_eq {l : List Nat} : wsFields (S l) = [((("raw" : Str)), tx l), ("n", natD (nOf l).2.2.1), ("nt", natD (nOf l).2.2.2), ("norm", normD l), ("is_simple", .bool (decide ((nOf l).1.length ≤ 1)))] := by
  unfold wsFields
  rw [wsOf_eq]
  unfold castS normD intsD tx
  simp only [List.map_map, List.length_map]
  rfl
noncomputable def AllF (ρ : Rho) : Prop := ρ.all (fun p => flatV p.2) = true
theorem allF_setR {x : Str} {v : V} (hv : flatV v = true) {ρ : Rho} (h : AllF ρ) : AllF (setR x v ρ) := by
  induction ρ with
  | nil => unfold AllF setR; simp [hv]
  | cons p ρ ih =>
    obtain ⟨y, u⟩ := p
    unfold AllF at h
    rw [List.all_cons, Bool.and_eq_true] at h
    have ih := ih h.2
    unfold AllF
    unfold setR
    split
    · rw [List.all_cons, Bool.and_eq_true]; exact ⟨hv, h.2⟩
    · rw [List.all_cons, Bool.and_eq_true]; exact ⟨h.1, ih⟩
theorem ints_flat {l : List Nat} : (intsD l).all flatD = true := by
  unfold intsD; rw [List.all_map]; exact List.all_eq_true.mpr fun _ _ => rfl
theorem fl_own {l : List Nat} : flatV (.own (intsD l)) = true := ints_flat
theorem intsD_len {l : List Nat} : (intsD l).length = l.length := List.length_map _

/-! ## __init__, its middle -/
noncomputable def initMid : List Stmt := ((fnBody (clsSt 1)).drop 1).take 4
theorem nOf_bound (pre : List Nat) : (pre.foldl nStep ([], 0, 0, 0)).1.length ≤ pre.length ∧ (pre.foldl nStep ([], 0, 0, 0)).2.1 ≤ pre.length := by
  have key : ∀ (pre : List Nat) (st : NS) (k : Nat), st.1.length ≤ k → st.2.1 ≤ k → ((pre.foldl nStep st).1.length ≤ k + pre.length) ∧ ((pre.foldl nStep st).2.1 ≤ k + pre.length) := by
    intro pre
    induction pre with
    | nil => intro st k h1 h2; exact ⟨h1, h2⟩
    | cons c pre ih =>
      intro st k h1 h2
      rw [List.foldl_cons, List.length_cons]
      have h : (nStep st c).1.length ≤ k + 1 ∧ (nStep st c).2.1 ≤ k + 1 := by
        unfold nStep
        split
        · exact ⟨Nat.le_succ_of_le h1, Nat.succ_le_succ h2⟩
        · refine ⟨?_, Nat.zero_le _⟩
          show ((grow st.1 st.2.1).set _ _).length ≤ _
          rw [List.length_set]
          unfold grow
          split
          · rw [List.length_append, List.length_replicate]; omega
          · omega
      have := ih (nStep st c) (k + 1) h.1 h.2
      rw [show k + (pre.length + 1) = k + 1 + pre.length by omega]
      exact this
  have := key pre ([], 0, 0, 0) 0 (Nat.le_refl _) (Nat.le_refl _)
  rw [Nat.zero_add] at this
  exact this
section
variable {w : World} {K : Frag} {l : Nat}
/-- what the loop over the signs keeps -/
structure MidI (x : Addr) (st : NS) (ρ : Rho) : Prop where
  flat : AllF ρ
  i1 : At ρ "self" (.fn (.ref x))
  i2 : At ρ "S" (.d (tx [32]))
  i3 : At ρ "T" (.d (tx [9]))
  i4 : At ρ "count" (.own (intsD st.1))
  i5 : At ρ "b" (natV st.2.1)
  i6 : At ρ "n" (natV st.2.2.1)
  i7 : At ρ "nt" (natV st.2.2.2)
theorem init_mid (g1 : GOk K "len" (.fn (.builtin "len"))) (g4 : GOk K "Whitespace" (.fn (.ref 111))) {x : Addr} {t : List Nat} (hl : t.length ≤ 1000) (oc : t.all okC = true) (a1 : AOk w K (.fn (.ref x)) "raw" (.d (tx t))) (a2 : AOk w K (.fn (.ref 111)) "S" (.d (tx [32]))) (a3 : AOk w K (.fn (.ref 111)) "T" (.d (tx [9]))) :
    Nx w K l (fnSc (clsSt 1)) [("count", false)] [("self", .fn (.ref x)), ("ws", .d (tx t))] initMid (MidI x (nOf t)) := by
  conv => arg 7; whnf; arg 2; whnf; arg 2; whnf; arg 2; whnf; arg 2; whnf
  walk_at "mw"
  refine nx_forB (fun pre ρ => MidI x (pre.foldl nStep ([], 0, 0, 0)) ρ) (fun c => V.d (tx [c])) blank t (v := .d (tx t)) (fun _ _ => rfl) (.inl rfl) (by kernel_rfl) ?_ rfl (items_tx t) rfl ⟨?_, ?_, ?_, ?_, ?_, ?_, ?_, ?_⟩ ?_ ?_
  · walk_at "mw"
  · refine allF_setR rfl (allF_setR rfl (allF_setR rfl (allF_setR rfl (allF_setR rfl (allF_setR rfl rfl)))))
  · walk_at "ml"
  · walk_at "ml"
  · walk_at "ml"
  · show At _ _ (.own []); walk_at "ml"
  · show At _ _ (.d (.int 0)); walk_at "ml"
  · show At _ _ (.d (.int 0)); walk_at "ml"
  · show At _ _ (.d (.int 0)); walk_at "ml"
  · intro pre ch post ρ hxs hi
    show (_ → Nx _ _ _ _ _ (setR _ (V.d (tx [ch])) ρ) _ (MidI x ((pre ++ [ch]).foldl nStep ([], 0, 0, 0)))) ∧ (_ → ∃ ρ', VB _ _ _ _ _ (setR _ (V.d (tx [ch])) ρ) _ (.brk ρ') ∧ MidI x (pre.foldl nStep ([], 0, 0, 0)) ρ')
    have hpre : pre.length ≤ 1000 := by
      have := congrArg List.length hxs
      rw [List.length_append] at this; omega
    obtain ⟨b1, b2⟩ := nOf_bound pre
    rw [show (pre ++ [ch]).foldl nStep ([], 0, 0, 0) = nStep (pre.foldl nStep ([], 0, 0, 0)) ch from by rw [List.foldl_append]; rfl]
    generalize hst : pre.foldl nStep ([], 0, 0, 0) = st at hi b1 b2 ⊢
    obtain ⟨cnt, b, n, nt⟩ := st
    obtain ⟨hF, i1, i2, i3, i4, i5, i6, i7⟩ := hi
    dsimp only at i4 i5 i6 i7 b1 b2
    have o0 := chr_ok oc hxs
    have q2 : BinR .Add (natV n) (.d (.int 1)) (natV (n + 1)) := addI_eq rfl
    have hF' : AllF (setR "ch" (.d (tx [ch])) ρ) := allF_setR rfl hF
    by_cases h1 : ch = 32
    · have c1 := cmp_one (d := 32) (decide_eq_true h1) o0 rfl
      have hb : blank ch = true := by rw [h1]; rfl
      have q1 : BinR .Add (natV b) (.d (.int 1)) (natV (b + 1)) := addI_eq rfl
      refine ⟨fun _ => ?_, fun h => by rw [hb] at h; cases h⟩
      rw [nStep, if_pos h1]
      walk_at "mw"
      refine ⟨allF_setR rfl (allF_setR rfl hF'), ?_, ?_, ?_, ?_, ?_, ?_, ?_⟩ <;> walk_at "ml"
    · have c1 := cmp_one (d := 32) (decide_eq_false h1) o0 rfl
      by_cases h2 : ch = 9
      · have c2 := cmp_one (d := 9) (decide_eq_true h2) o0 rfl
        have hb : blank ch = true := by rw [h2]; rfl
        refine ⟨fun _ => ?_, fun h => by rw [hb] at h; cases h⟩
        have q3 : BinR .Add (natV nt) (.d (.int 1)) (natV (nt + 1)) := addI_eq rfl
        have gl : b < (grow cnt b).length ∧ (grow cnt b).length ≤ 2002 := by
          unfold grow
          split
          · rw [List.length_append, List.length_replicate]; omega
          · omega
        have n1 : CallOk w K l (.fn (.builtin "len")) [.own (intsD cnt)] (natV cnt.length) := by
          have := len_call (w := w) (K := K) (l := l) (LenR.list (ListR.own (intsD cnt))) (short_of (by rw [intsD_len]; omega))
          rw [intsD_len] at this; exact this
        have t1 : SubR (.own (intsD (grow cnt b))) (b : Int) (natV ((grow cnt b).getD b 0)) := sub_list (.own _) (getD_map (f := natD) gl.1) (by rw [intsD_len]; omega)
        have q4 : BinR .Add (natV ((grow cnt b).getD b 0)) (.d (.int 1)) (.d (natD ((grow cnt b).getD b 0 + 1))) := addI_eq rfl
        have r2 : (intsD (grow cnt b)).set (b : Int).toNat (natD ((grow cnt b).getD b 0 + 1)) = intsD ((grow cnt b).set b ((grow cnt b).getD b 0 + 1)) := by
          unfold intsD
          rw [Int.toNat_natCast, List.map_set]
        rw [nStep, if_neg h1]
        -- the rest of the block, once the row of counts is long enough
        have fin : ∀ ρ' : Rho, AllF ρ' → At ρ' "self" (.fn (.ref x)) → At ρ' "S" (.d (tx [32])) → At ρ' "T" (.d (tx [9])) → At ρ' "count" (.own (intsD (grow cnt b))) → At ρ' "b" (natV b) → At ρ' "n" (natV (n + 1)) → At ρ' "nt" (natV (nt + 1)) → ∀ (p1 p2 p3 p4 p5 p6 p7 p8 p9 pa pb pc : Pos) ,
            Nx w K l (fnSc (clsSt 1)) [("count", false)] ρ' [.Assign [.Subscript (.Name "count" p1) (.Name "b" p2) p3] (.BinOp (.Subscript (.Name "count" p4) (.Name "b" p5) p6) .Add (.Constant (.int 1) 0 p7) p8) p9, .Assign [.Name "b" pa] (.Constant (.int 0) 0 pb) pc]
              (MidI x ((grow cnt b).set b ((grow cnt b).getD b 0 + 1), 0, n + 1, nt + 1)) := by
          intro ρ' f0 u1 u2 u3 u4 u5 u6 u7 p1 p2 p3 p4 p5 p6 p7 p8 p9 pa pb pc
          refine nx_cons (vs_sub (k := (b : Int)) (fun _ _ => rfl) (by kernel_rfl) (by kernel_rfl) (by kernel_rfl) u4 (d := natD ((grow cnt b).getD b 0 + 1)) ?_ ?_ (Int.natCast_nonneg _) (by rw [intsD_len]; omega) (short_of (by rw [intsD_len]; omega))) ?_
          · walk_at "mw"
          · walk_at "mw"
          rw [r2]
          walk_at "mw"
          refine ⟨allF_setR rfl (allF_setR fl_own f0), ?_, ?_, ?_, ?_, ?_, ?_, ?_⟩
          · walk_at "ml"
          · walk_at "ml"
          · walk_at "ml"
          · walk_at "ml"
          · show At _ _ (.d (.int 0)); walk_at "ml"
          · walk_at "ml"
          · walk_at "ml"
        refine nx_ifl (t := false) ?_ (nx_condF (nx_ifl (t := true) ?_ (nx_condT (nx_cons (vs_name (v := natV (n + 1)) (fun _ _ => rfl) (by kernel_rfl) ?_ rfl) (nx_cons (vs_name (v := natV (nt + 1)) (fun _ _ => rfl) (by kernel_rfl) ?_ rfl) ?_)))))
        · walk_at "mw"
        · walk_at "mw"
        · walk_at "mw"
        · walk_at "mw"
        by_cases hg : b ≥ cnt.length
        · have d3 : CmpR .GtE (natV b) (natV cnt.length) true := cmp_geF (decide_eq_true (by omega))
          have e3 : ((b : Int) - (cnt.length : Int) + 1).toNat = b - cnt.length + 1 := by omega
          have s4 : BinR .Mult (.d (.list [.int 0])) (.d (.int ((b : Int) - (cnt.length : Int) + 1))) (.d (.list (List.replicate (b - cnt.length + 1) (.int 0)))) := by
            rw [← e3]; exact .rep (small_of (by omega) (by omega)) (short_of (by omega))
          have r1 : BinR .Add (.own (intsD cnt)) (.d (.list (List.replicate (b - cnt.length + 1) (.int 0)))) (.d (.list (intsD (grow cnt b)))) := by
            have h := BinR.addL (ListR.own (intsD cnt)) (ListR.d (List.replicate (b - cnt.length + 1) (.int 0))) (short_of (by rw [intsD_len]; omega)) (short_of (by rw [List.length_replicate]; omega))
            have e : intsD cnt ++ List.replicate (b - cnt.length + 1) (PyData.int 0) = intsD (grow cnt b) := by
              unfold grow intsD
              rw [if_pos hg, List.map_append, List.map_replicate]; rfl
            rw [e] at h; exact h
          have pk : PackR [V.d (.int 0)] (.d (.list [.int 0])) := PackR.d [.int 0]
          refine nx_cons (vs_ifT ?_ (vb_last (vs_own (xs := intsD (grow cnt b)) (fun _ _ => rfl) (by kernel_rfl) (by kernel_rfl) (allF_setR rfl (allF_setR rfl hF')) ?_ ints_flat))) (fin _ (allF_setR fl_own (allF_setR rfl (allF_setR rfl hF'))) ?_ ?_ ?_ look_here ?_ ?_ ?_ ..)
          · walk_at "mw"
          · walk_at "mw"
          · walk_at "ml"
          · walk_at "ml"
          · walk_at "ml"
          · walk_at "ml"
          · walk_at "ml"
          · walk_at "ml"
        · have d3 : CmpR .GtE (natV b) (natV cnt.length) false := cmp_geF (decide_eq_false (by omega))
          have r1 : grow cnt b = cnt := by unfold grow; rw [if_neg hg]
          refine nx_cons (vs_ifF ?_ vb_nil) (fin _ (allF_setR rfl (allF_setR rfl hF')) ?_ ?_ ?_ ?_ ?_ ?_ ?_ ..)
          · walk_at "mw"
          · walk_at "ml"
          · walk_at "ml"
          · walk_at "ml"
          · rw [r1]; walk_at "ml"
          · walk_at "ml"
          · walk_at "ml"
          · walk_at "ml"
      · have c2 := cmp_one (d := 9) (decide_eq_false h2) o0 rfl
        have hb : blank ch = false := by simp [blank, h1, h2]
        refine ⟨fun h => (by rw [hb] at h; cases h), fun _ => ⟨setR "ch" (.d (tx [ch])) ρ, ?_, hF', ?_, ?_, ?_, ?_, ?_, ?_, ?_⟩⟩
        · walk_at "mw"
        all_goals walk_at "ml"
  · intro ρ hi
    exact nx_nil hi
end
/-! ## the attributes of a Whitespace -/
structure AttrsW (w : World) (K : Frag) : Prop where
  raw : ∀ l : List Nat, AOk w K (.ws (S l)) "raw" (.d (tx l))
  n : ∀ l : List Nat, AOk w K (.ws (S l)) "n" (natV (nOf l).2.2.1)
  nt : ∀ l : List Nat, AOk w K (.ws (S l)) "nt" (natV (nOf l).2.2.2)
  norm : ∀ l : List Nat, AOk w K (.ws (S l)) "norm" (.d (normD l))
  simple : ∀ l : List Nat, AOk w K (.ws (S l)) "is_simple" (.d (.bool (decide ((nOf l).1.length ≤ 1))))
theorem nOf_len {l : List Nat} (h : l.length ≤ 1000) : (nOf l).1.length ≤ 1000 ∧ (nOf l).2.1 ≤ 1000 := by
  have := nOf_bound (l.takeWhile blank)
  have h2 : (l.takeWhile blank).length ≤ l.length := (List.takeWhile_prefix blank).length_le
  unfold nOf
  omega
theorem items_rngT {a b : Nat} (h : a ≤ 1000000) (h' : b ≤ 1000000) : ItemsR (.rng (a : Int) (b : Int)) ((List.range (b - a)).map fun k => natV (a + k)) := by
  have e := ItemsR.rng (a := (a : Int)) (b := (b : Int)) (small_nat h) (small_nat h')
  unfold intRange at e
  rw [List.map_map, show ((b : Int) - (a : Int)).toNat = b - a from by omega] at e
  exact e
theorem items_rng2 {n : Int} (h : -1000000 ≤ n) (h' : n ≤ 1000000) : ItemsR (.rng 2 n) ((List.range (n - 2).toNat).map fun k => natV (k + 2)) := by
  have e := ItemsR.rng (a := 2) (b := n) rfl (small_of (by omega) (by omega))
  have q : (intRange 2 n).map (fun i => V.d (.int i)) = (List.range (n - 2).toNat).map fun k => natV (k + 2) := by
    unfold intRange
    rw [List.map_map]
    apply List.map_congr_left
    intro k _
    show V.d (.int (2 + (k : Int))) = V.d (.int ((k + 2 : Nat) : Int))
    rw [Int.natCast_add, Int.add_comm]; rfl
  rw [q] at e
  exact e
theorem len_ints {w : World} {K : Frag} {l : Nat} {cnt : List Nat} (h : cnt.length ≤ 1000000) : CallOk w K l (.fn (.builtin "len")) [.d (.tuple (intsD cnt))] (natV cnt.length) := by
  have := len_call (w := w) (K := K) (l := l) (LenR.tuple (intsD cnt)) (short_of (by rw [intsD_len]; exact h))
  rw [intsD_len] at this; exact this

/-! ## longest_run_of_spaces -/
noncomputable def longI (l : List Nat) : Int := max (((nOf l).1.length : Int) - 1) ((nOf l).2.1 : Int)
section
variable {w : World} {K : Frag} {l : Nat}
theorem longest_bk (g1 : GOk K "len" (.fn (.builtin "len"))) (g2 : GOk K "max" (.fn (.builtin "max"))) (at_ : AttrsW w K) {t : List Nat} (hl : t.length ≤ 1000) :
    VB w K l (fnSc (clsSt 2)) [] [("self", .ws (S t))] (fnBody (clsSt 2)) (.ret (.d (.int (longI t)))) := by
  conv => arg 7; whnf
  have b := nOf_len hl
  have a1 : AOk w K (.ws (S t)) "norm" (.d (.tuple [.tuple (intsD (nOf t).1), natD (nOf t).2.1])) := at_.norm t
  have n1 : CallOk w K l (.fn (.builtin "len")) [.d (.tuple (intsD (nOf t).1))] (natV (nOf t).1.length) := len_ints (by omega)
  have mx : CallOk w K l (.fn (.builtin "max")) [.d (.int (((nOf t).1.length : Int) - 1)), .d (natD (nOf t).2.1)] (.d (.int (longI t))) := max_call
  walk_at "mw"

/-! ## indent_level -/
noncomputable def ilStep (cnt : List Nat) (ts : Nat) (il k : Nat) : Nat := il + (ts + k) / ts * cnt.getD (ts + k) 0
noncomputable def ilN (cnt : List Nat) (ts n : Nat) : Nat := (List.range n).foldl (ilStep cnt ts) 0
noncomputable def indN (l : List Nat) (ts : Nat) : Nat := (nOf l).2.1 + ts * (ilN (nOf l).1 ts ((nOf l).1.length - ts) + (nOf l).2.2.2)
noncomputable def indOk (l : List Nat) (ts : Nat) : Bool := (nOf l).1.all (fun n => Nat.ble n 1000000) && Nat.ble (ilN (nOf l).1 ts ((nOf l).1.length - ts) + (nOf l).2.2.2) 1000000
theorem ilN_succ {cnt : List Nat} {ts n : Nat} : ilN cnt ts (n + 1) = ilStep cnt ts (ilN cnt ts n) n := by
  unfold ilN; rw [List.range_succ, List.foldl_append]; rfl
theorem indent_bk (g1 : GOk K "len" (.fn (.builtin "len"))) (g2 : GOk K "range" (.fn (.type "range"))) (at_ : AttrsW w K) {t : List Nat} {ts : Nat} (hl : t.length ≤ 1000) (h1 : 1 ≤ ts) (h2 : ts ≤ 1000) (ok : indOk t ts = true) :
    VB w K l (fnSc (clsSt 3)) [] [("self", .ws (S t)), ("tabsize", natV ts)] (fnBody (clsSt 3)) (.ret (natV (indN t ts))) := by
  conv => arg 7; whnf
  have b := nOf_len hl
  unfold indOk at ok
  rw [Bool.and_eq_true] at ok
  obtain ⟨k1, k2⟩ := ok
  have k2 := Nat.le_of_ble_eq_true k2
  have a1 : AOk w K (.ws (S t)) "norm" (.d (.tuple [.tuple (intsD (nOf t).1), natD (nOf t).2.1])) := at_.norm t
  have a2 := at_.nt t
  have n1 : CallOk w K l (.fn (.builtin "len")) [.d (.tuple (intsD (nOf t).1))] (natV (nOf t).1.length) := len_ints (by omega)
  have e1 := items_rngT (a := ts) (b := (nOf t).1.length) (by omega) (by omega)
  have s3 : small (ts : Int) = true := small_nat (by omega)
  walk_at "mw"
  refine vb_for (fun pre ρ => At ρ "self" (.ws (S t)) ∧ At ρ "tabsize" (natV ts) ∧ At ρ "count" (.d (.tuple (intsD (nOf t).1))) ∧ At ρ "trailing" (natV (nOf t).2.1) ∧ At ρ "il" (natV (ilN (nOf t).1 ts pre.length))) (fun k => natV (ts + k)) (List.range ((nOf t).1.length - ts)) (v := .rng (ts : Int) ((nOf t).1.length : Int)) (fun _ _ => rfl) (.inl rfl) (by kernel_rfl) ?_ rfl e1 rfl ⟨?_, ?_, ?_, ?_, ?_⟩ ?_ ?_
  · walk_at "mw"
  · walk_at "ml"
  · walk_at "ml"
  · walk_at "ml"
  · show At _ _ (.d (natD (nOf t).2.1)); walk_at "ml"
  · show At _ _ (.d (.int 0)); walk_at "ml"
  · intro pre k post ρ hxs hi
    obtain ⟨i1, i2, i3, i4, i5⟩ := hi
    obtain ⟨hk, hpre⟩ := range_split hxs
    have hpl : pre.length = k := by rw [hpre, List.length_range]
    rw [hpl] at i5
    have q1 : BinR .FloorDiv (natV (ts + k)) (natV ts) (natV ((ts + k) / ts)) := by
      have := BinR.divI (x := ((ts + k : Nat) : Int)) (y := (ts : Int)) s3 (by simp; omega)
      rw [Int.fdiv_eq_ediv_of_nonneg _ (by omega)] at this; exact this
    have g : (nOf t).1.getD (ts + k) 0 ≤ 1000000 := by
      rw [List.getD_eq_getElem?_getD, List.getElem?_eq_getElem (by omega)]
      exact Nat.le_of_ble_eq_true (List.all_eq_true.mp k1 _ (List.getElem_mem _))
    have q3 : BinR .Mult (natV ((ts + k) / ts)) (.d (natD ((nOf t).1.getD (ts + k) 0))) (natV ((ts + k) / ts * (nOf t).1.getD (ts + k) 0)) := by
      have := BinR.mulI (x := (((ts + k) / ts : Nat) : Int)) (y := (((nOf t).1.getD (ts + k) 0 : Nat) : Int)) (small_nat (by have := Nat.div_le_self (ts + k) ts; omega))
      rw [← Int.natCast_mul] at this; exact this
    have t1 : SubR (.d (.tuple (intsD (nOf t).1))) ((ts + k : Nat) : Int) (.d (natD ((nOf t).1.getD (ts + k) 0))) := sub_tuple (getD_map (f := natD) (by omega)) (by rw [intsD_len]; omega)
    have q2 : BinR .Add (natV (ilN (nOf t).1 ts k)) (natV ((ts + k) / ts * (nOf t).1.getD (ts + k) 0)) (natV (ilN (nOf t).1 ts (pre ++ [k]).length)) := addI_eq (by
      rw [List.length_append, hpl]
      show _ = ((ilN (nOf t).1 ts (k + 1) : Nat) : Int)
      rw [ilN_succ]; unfold ilStep
      rw [← Int.natCast_add])
    walk_at "mw"
    refine ⟨?_, ?_, ?_, ?_, look_here⟩ <;> walk_at "ml"
  · intro ρ hi
    obtain ⟨i1, i2, i3, i4, i5⟩ := hi
    rw [List.length_range] at i5
    have q1 : BinR .Add (natV (ilN (nOf t).1 ts ((nOf t).1.length - ts))) (natV (nOf t).2.2.2) (natV (ilN (nOf t).1 ts ((nOf t).1.length - ts) + (nOf t).2.2.2)) := addI_eq rfl
    have q2 : BinR .Mult (natV ts) (natV (ilN (nOf t).1 ts ((nOf t).1.length - ts) + (nOf t).2.2.2)) (natV (ts * (ilN (nOf t).1 ts ((nOf t).1.length - ts) + (nOf t).2.2.2))) := by
      have := BinR.mulI (x := (ts : Int)) (y := ((ilN (nOf t).1 ts ((nOf t).1.length - ts) + (nOf t).2.2.2 : Nat) : Int)) s3
      rw [← Int.natCast_mul] at this; exact this
    have q3 : BinR .Add (natV (nOf t).2.1) (natV (ts * (ilN (nOf t).1 ts ((nOf t).1.length - ts) + (nOf t).2.2.2))) (natV (indN t ts)) := addI_eq rfl
    walk_at "mw"

/-! ## equal -/
noncomputable def eqnP (l l' : List Nat) : Bool := (nOf l).1 == (nOf l').1 && (nOf l).2.1 == (nOf l').2.1
theorem ok_ints {k : Nat} {l : List Nat} : ∀ x ∈ intsD l, D k x := fun x m => by
  obtain ⟨n, _, rfl⟩ := List.mem_map.mp m
  exact D.int
theorem ok_norm {l : List Nat} : eqOk (normD l) = true := (D.tuple (k := 5) (fun x m => by
  rcases List.mem_cons.mp m with rfl | m
  · exact D.tuple (k := 4) ok_ints
  · rw [List.mem_singleton.mp m]; exact D.int)).ok (by decide)
theorem nat_beq (l : List Nat) : ∀ l' : List Nat, (l.map (fun n : Nat => (n : Int)) == l'.map (fun n : Nat => (n : Int))) = (l == l') := by
  induction l with
  | nil => intro l'; cases l' <;> rfl
  | cons a l ih =>
    intro l'
    cases l' with
    | nil => rfl
    | cons b l' =>
      show (((a : Int) == (b : Int)) && (l.map (fun n : Nat => (n : Int)) == l'.map (fun n : Nat => (n : Int)))) = ((a == b) && (l == l'))
      rw [ih]
      congr 1
      rw [Bool.eq_iff_iff, beq_iff_eq, beq_iff_eq]; exact Int.ofNat_inj
theorem eqv_intsD {l l' : List Nat} : PyData.eqvAll (intsD l) (intsD l') = (l == l') := by
  have e : ∀ l : List Nat, intsD l = (l.map (fun n : Nat => (n : Int))).map .int := fun l => by unfold intsD; rw [List.map_map]; rfl
  rw [e, e, eqv_ints, nat_beq]
theorem eqv_norm {l l' : List Nat} : PyData.eqv (normD l) (normD l') = eqnP l l' := by
  have h1 : PyData.eqv (normD l) (normD l') = (PyData.eqv (.tuple (intsD (nOf l).1)) (.tuple (intsD (nOf l').1)) && (PyData.eqv (.int ((nOf l).2.1 : Int)) (.int ((nOf l').2.1 : Int)) && true)) := rfl
  have h2 : PyData.eqv (.tuple (intsD (nOf l).1)) (.tuple (intsD (nOf l').1)) = PyData.eqvAll (intsD (nOf l).1) (intsD (nOf l').1) := rfl
  rw [h1, h2, eqv_intsD, eqv_int, Bool.and_true]
  unfold eqnP
  congr 1
  rw [Bool.eq_iff_iff, beq_iff_eq, beq_iff_eq]; exact Int.ofNat_inj
theorem equal_bk (at_ : AttrsW w K) {t t' : List Nat} :
    VB w K l (fnSc (clsSt 4)) [] [("self", .ws (S t)), ("other", .ws (S t'))] (fnBody (clsSt 4)) (.ret (.d (.bool (eqnP t t')))) := by
  conv => arg 7; whnf
  have a1 := at_.norm t
  have a2 := at_.norm t'
  have c := CmpR.eq (ok_norm (l := t)) (ok_norm (l := t'))
  rw [eqv_norm] at c
  walk_at "mw"

/-! ## less -/
noncomputable def simpleB (l : List Nat) : Bool := decide ((nOf l).1.length ≤ 1)
noncomputable def lessN (l l' : List Nat) : Nat := (max (longI l) (longI l')).toNat
noncomputable def lessP (l l' : List Nat) : Bool := if (nOf l').2.2.1 ≤ (nOf l).2.2.1 then false else if (simpleB l && simpleB l') = true then decide ((nOf l).2.2.2 ≤ (nOf l').2.2.2) else !((List.range (lessN l l')).any fun k => decide (indN l' (k + 2) ≤ indN l (k + 2)))
theorem less_bk (g2 : GOk K "max" (.fn (.builtin "max"))) (g3 : GOk K "range" (.fn (.type "range"))) (at_ : AttrsW w K) {t t' : List Nat} (hl : t.length ≤ 1000) (hl' : t'.length ≤ 1000)
    (m1 : MOk w K l (.ws (S t)) "longest_run_of_spaces" [] (.d (.int (longI t)))) (m2 : MOk w K l (.ws (S t')) "longest_run_of_spaces" [] (.d (.int (longI t'))))
    (m3 : ∀ k, k < lessN t t' → MOk w K l (.ws (S t)) "indent_level" [natV (k + 2)] (natV (indN t (k + 2)))) (m4 : ∀ k, k < lessN t t' → MOk w K l (.ws (S t')) "indent_level" [natV (k + 2)] (natV (indN t' (k + 2)))) :
    VB w K l (fnSc (clsSt 6)) [] [("self", .ws (S t)), ("other", .ws (S t'))] (fnBody (clsSt 6)) (.ret (.d (.bool (lessP t t')))) := by
  conv => arg 7; whnf
  have b := nOf_len hl
  have b' := nOf_len hl'
  have a1 := at_.n t
  have a2 := at_.n t'
  have a3 := at_.nt t
  have a4 := at_.nt t'
  have a5 : AOk w K (.ws (S t)) "is_simple" (.d (.bool (simpleB t))) := at_.simple t
  have a6 : AOk w K (.ws (S t')) "is_simple" (.d (.bool (simpleB t'))) := at_.simple t'
  by_cases h1 : (nOf t').2.2.1 ≤ (nOf t).2.2.1
  · have c1 : CmpR .GtE (natV (nOf t).2.2.1) (natV (nOf t').2.2.1) true := cmp_geF (decide_eq_true (by omega))
    rw [lessP, if_pos h1]
    refine vb_ret (vs_ifT ?_ ?_)
    · walk_at "mw"
    · walk_at "mw"
  · have c1 : CmpR .GtE (natV (nOf t).2.2.1) (natV (nOf t').2.2.1) false := cmp_geF (decide_eq_false (by omega))
    rw [lessP, if_neg h1]
    refine vb_cons (vs_ifF ?_ vb_nil) ?_
    · walk_at "mw"
    have test : ∀ p1 p2 p3 p4 p5 : Pos, VT w K l (fnSc (clsSt 6)) [("self", .ws (S t)), ("other", .ws (S t'))] (.BoolOp .And [.Attribute (.Name "self" p1) "is_simple" p2, .Attribute (.Name "other" p3) "is_simple" p4] p5) (simpleB t && simpleB t') := by
      intro p1 p2 p3 p4 p5
      cases hA : simpleB t with
      | true =>
        rw [hA] at a5
        rw [Bool.true_and]
        refine vt_andT ?_ ?_
        · walk_at "mw"
        · walk_at "mw"
      | false =>
        rw [hA] at a5
        rw [Bool.false_and]
        refine vt_andF ?_
        walk_at "mw"
    cases h2 : (simpleB t && simpleB t') with
    | true =>
      rw [h2] at test
      rw [if_pos rfl]
      have c4 : CmpR .LtE (natV (nOf t).2.2.2) (natV (nOf t').2.2.2) (decide ((nOf t).2.2.2 ≤ (nOf t').2.2.2)) := cmp_leF (decide_eq_decide.mpr Int.ofNat_le)
      refine vb_ret (vs_ifT (test ..) ?_)
      walk_at "mw"
    | false =>
      rw [h2] at test
      rw [if_neg (fun q => nomatch q)]
      refine vb_cons (vs_ifF (test ..) vb_nil) ?_
      have hlong : longI t ≤ 1000 ∧ longI t' ≤ 1000 ∧ -1 ≤ longI t ∧ -1 ≤ longI t' := by unfold longI; omega
      have e1 := items_rng2 (n := max (longI t) (longI t') + 1 + 1) (by omega) (by omega)
      have e2 : (max (longI t) (longI t') + 1 + 1 - 2).toNat = lessN t t' := by unfold lessN; omega
      rw [e2] at e1
      walk_at "mw"
      refine vb_forR (fun ρ => At ρ "self" (.ws (S t)) ∧ At ρ "other" (.ws (S t'))) (fun k => natV (k + 2)) (fun k => decide (indN t' (k + 2) ≤ indN t (k + 2))) (.d (.bool false)) (List.range (lessN t t')) (v := .rng 2 (max (longI t) (longI t') + 1 + 1)) (fun _ _ => rfl) (.inl rfl) (by kernel_rfl) ?_ rfl e1 rfl ⟨?_, ?_⟩ ?_ ?_ ?_
      · walk_at "mw"
      · walk_at "ml"
      · walk_at "ml"
      · intro k ρ hk hi
        obtain ⟨i1, i2⟩ := hi
        have u1 := m3 k (List.mem_range.mp hk)
        have u2 := m4 k (List.mem_range.mp hk)
        refine ⟨fun hp => ?_, fun hp => ?_⟩
        · have u3 : CmpR .GtE (natV (indN t (k + 2))) (natV (indN t' (k + 2))) true := cmp_geF (decide_eq_true (Int.ofNat_le.mpr (of_decide_eq_true hp)))
          refine vb_ret (vs_ifT ?_ ?_)
          · walk_at "mw"
          · walk_at "mw"
        · have u3 : CmpR .GtE (natV (indN t (k + 2))) (natV (indN t' (k + 2))) false := cmp_geF (decide_eq_false (fun q => of_decide_eq_false hp (Int.ofNat_le.mp q)))
          walk_at "mw"
          refine ⟨?_, ?_⟩ <;> walk_at "ml"
      · intro hp
        rw [hp]; rfl
      · intro hp ρ hi
        rw [hp]
        show VB _ _ _ _ _ _ _ (.ret (.d (.bool true)))
        walk_at "mw"
end
/-! ## _law_told -/
abbrev Parts := List (List Nat × List Nat)
noncomputable def standB (parts : Parts) (texts : List (List Nat)) (j i : Nat) : Bool := if i < parts.length then fitsP (parts.getD i ([], [])).1 (parts.getD i ([], [])).2 (texts.getD j []) else texts.getD i [] == texts.getD j []
noncomputable def smallB (cols : List (List Nat)) (j i : Nat) : Bool := !((List.range (cols.getD i []).length).any fun k => decide ((cols.getD j []).getD k 0 ≤ (cols.getD i []).getD k 0))
noncomputable def alikeB (cols : List (List Nat)) (j i : Nat) : Bool := cols.getD i [] == cols.getD j []
noncomputable def rowsD (p q r : Nat → Bool) (n : Nat) : List PyData := [partedD (partedP ((List.range n).map p)), partedD (partedP ((List.range n).map q)), partedD (partedP ((List.range n).map r))]
theorem cmp_nats {l l' : List Nat} {t : Bool} (h : (l == l') = t) : CmpR .Eq (.d (natsD l)) (.d (natsD l')) t := by
  have ok : ∀ l : List Nat, eqOk (natsD l) = true := fun l => (D.list (k := 4) (ok_ints (l := l))).ok (by decide)
  have c := CmpR.eq (ok l) (ok l')
  rw [show PyData.eqv (natsD l) (natsD l') = PyData.eqvAll (intsD l) (intsD l') from rfl, eqv_intsD, h] at c
  exact c
theorem any_filter {l : List Nat} {p : Nat → Bool} : (l.filter p == []) = !l.any p := by
  rw [Bool.eq_iff_iff, beq_iff_eq, List.filter_eq_nil_iff, Bool.not_eq_true', List.any_eq_false]
theorem sub_map {α : Type} {ls : List α} {f : α → PyData} {d : α} {i : Nat} (h : i < ls.length) (hs : ls.length ≤ 1000) : SubR (.d (.list (ls.map f))) (i : Int) (.d (f (ls.getD i d))) :=
  sub_list (.d _) (getD_map h) (by rw [List.length_map]; omega)
theorem len_map {w : World} {K : Frag} {l : Nat} {α : Type} {ls : List α} {f : α → PyData} (hs : ls.length ≤ 1000) : CallOk w K l (.fn (.builtin "len")) [.d (.list (ls.map f))] (natV ls.length) := by
  have := len_call (w := w) (K := K) (l := l) (LenR.list (ListR.d (ls.map f))) (short_of (by rw [List.length_map]; omega))
  rw [List.length_map] at this; exact this
section
variable {w : World} {K : Frag} {l : Nat}
structure ToldI (parts : Parts) (texts cols : List (List Nat)) (j : Nat) (pre : List Nat) (ρ : Rho) : Prop where
  i1 : At ρ "parts" (.d (.list (parts.map pairD)))
  i2 : At ρ "texts" (.d (.list (texts.map tx)))
  i3 : At ρ "columns" (.d (.list (cols.map natsD)))
  i4 : At ρ "j" (natV j)
  i5 : At ρ "stands" (.own ((pre.map (standB parts texts j)).map .bool))
  i6 : At ρ "smaller" (.own ((pre.map (smallB cols j)).map .bool))
  i7 : At ρ "alike" (.own ((pre.map (alikeB cols j)).map .bool))
theorem told_bk (g1 : GOk K "len" (.fn (.builtin "len"))) (g2 : GOk K "range" (.fn (.type "range"))) (g3 : GOk K "_law_fits" (.fn (.ref 148))) (g4 : GOk K "_law_parted" (.fn (.ref 153)))
    {parts : Parts} {texts cols : List (List Nat)} {j : Nat} (h1 : texts.length ≤ 500) (h2 : parts.length ≤ texts.length) (h3 : cols.length = texts.length) (h4 : ∀ i, (cols.getD i []).length ≤ 500) (h5 : ∀ i, i < texts.length → (cols.getD i []).length = (cols.getD j []).length) (hj : j < texts.length)
    (ho : ∀ i, (texts.getD i []).all okC = true)
    (c1 : ∀ i, i < parts.length → CallOk w K l (.fn (.ref 148)) [.d (tx (parts.getD i ([], [])).1), .d (tx (parts.getD i ([], [])).2), .d (tx (texts.getD j []))] (.d (.bool (fitsP (parts.getD i ([], [])).1 (parts.getD i ([], [])).2 (texts.getD j [])))))
    (c2 : ∀ bs : List Bool, bs.length = texts.length → CallOk w K l (.fn (.ref 153)) [.d (.list (bs.map .bool))] (.d (partedD (partedP bs)))) :
    VB w K l (fnSc (topSt 17)) [("stands", true), ("smaller", true), ("alike", true)] [("parts", .d (.list (parts.map pairD))), ("texts", .d (.list (texts.map tx))), ("columns", .d (.list (cols.map natsD))), ("j", natV j)] (fnBody (topSt 17))
      (.ret (.d (.list (rowsD (standB parts texts j) (smallB cols j) (alikeB cols j) texts.length)))) := by
  conv => arg 7; whnf
  have l1 : CallOk w K l (.fn (.builtin "len")) [.d (.list (texts.map tx))] (natV texts.length) := len_map (by omega)
  have l2 : CallOk w K l (.fn (.builtin "len")) [.d (.list (parts.map pairD))] (natV parts.length) := len_map (by omega)
  have e1 := items_rng0 (n := texts.length) (by omega)
  walk_at "mw"
  refine vb_for (ToldI parts texts cols j) natV (List.range texts.length) (v := .rng 0 (texts.length : Int)) (fun _ _ => rfl) (.inl rfl) (by kernel_rfl) ?_ rfl e1 rfl ⟨?_, ?_, ?_, ?_, ?_, ?_, ?_⟩ ?_ ?_
  · walk_at "mw"
  · walk_at "ml"
  · walk_at "ml"
  · walk_at "ml"
  · walk_at "ml"
  · show At _ _ (.own []); walk_at "ml"
  · show At _ _ (.own []); walk_at "ml"
  · show At _ _ (.own []); walk_at "ml"
  · intro pre i post ρ hxs hi
    obtain ⟨i1, i2, i3, i4, i5, i6, i7⟩ := hi
    obtain ⟨hk, hpre⟩ := range_split hxs
    have hpl : pre.length = i := by rw [hpre, List.length_range]
    have t1 : SubR (.d (.list (texts.map tx))) (j : Int) (.d (tx (texts.getD j []))) := sub_map hj (by omega)
    have t2 : SubR (.d (.list (texts.map tx))) (i : Int) (.d (tx (texts.getD i []))) := sub_map hk (by omega)
    have t3 : SubR (.d (.list (cols.map natsD))) (i : Int) (.d (natsD (cols.getD i []))) := sub_map (by omega) (by omega)
    have t4 : SubR (.d (.list (cols.map natsD))) (j : Int) (.d (natsD (cols.getD j []))) := sub_map (by omega) (by omega)
    have l3 : CallOk w K l (.fn (.builtin "len")) [.d (natsD (cols.getD i []))] (natV (cols.getD i []).length) := len_map (by have := h4 i; omega)
    have e2 := items_rng0 (n := (cols.getD i []).length) (by have := h4 i; omega)
    have s1 : short (List.range (cols.getD i []).length).length = true := short_of (by rw [List.length_range]; have := h4 i; omega)
    have sh : ∀ f : Nat → Bool, short ((pre.map f).map PyData.bool).length = true := fun f => by rw [List.length_map, List.length_map, hpl]; exact short_of (by omega)
    have s5 := sh (standB parts texts j)
    have s6 := sh (smallB cols j)
    have s7 := sh (alikeB cols j)
    have ca : CmpR .Eq (.d (natsD (cols.getD i []))) (.d (natsD (cols.getD j []))) (alikeB cols j i) := cmp_nats rfl
    have pn : PackR [] (.d (.list [])) := PackR.d []
    -- the second and the third row
    have fin : ∀ ρ' : Rho, At ρ' "i" (natV i) → At ρ' "parts" (.d (.list (parts.map pairD))) → At ρ' "texts" (.d (.list (texts.map tx))) → At ρ' "columns" (.d (.list (cols.map natsD))) → At ρ' "j" (natV j) → At ρ' "stands" (.own ((pre.map (standB parts texts j)).map .bool ++ [.bool (standB parts texts j i)])) →
        At ρ' "smaller" (.own ((pre.map (smallB cols j)).map .bool)) → At ρ' "alike" (.own ((pre.map (alikeB cols j)).map .bool)) →
        Nx w K l (fnSc (topSt 17)) [("stands", true), ("smaller", true), ("alike", true)] ρ' ((match (fnBody (topSt 17)).getD 3 (.Pass ⟨0, 0, 0, 0⟩) with | .For _ _ b _ _ => b | _ => []).drop 1) (ToldI parts texts cols j (pre ++ [i])) := by
      intro ρ' i0 i1 i2 i3 i4 i5 i6 i7
      conv => arg 7; whnf
      refine nx_cons (vs_append (d := .bool (smallB cols j i)) (by kernel_rfl) (by kernel_rfl) (by kernel_rfl) (by kernel_rfl) i6 (fun _ _ => rfl) (ve_cmp (by kernel_rfl) (ve_comp (vc_filter natV natD (fun k => decide ((cols.getD j []).getD k 0 ≤ (cols.getD i []).getD k 0)) ⟨rfl, by kernel_rfl, by kernel_rfl⟩ (fun _ _ => rfl) (v0 := .rng 0 ((cols.getD i []).length : Int)) ?_ rfl e2 rfl (by kernel_rfl) s1 (fun k hk' => ?_) fun k hk' _ => ?_)) (ve_list rfl .nil pn) (cmp_nats (l' := []) ?_)) s6) ?_
      · walk_at "mw"
      · have hk1 : k < (cols.getD i []).length := List.mem_range.mp hk'
        have hk2 : k < (cols.getD j []).length := by rw [← h5 i hk]; exact hk1
        have t6 : SubR (.d (natsD (cols.getD i []))) (k : Int) (natV ((cols.getD i []).getD k 0)) := sub_map (f := natD) hk1 (by have := h4 i; omega)
        have t7 : SubR (.d (natsD (cols.getD j []))) (k : Int) (natV ((cols.getD j []).getD k 0)) := sub_map (f := natD) hk2 (by have := h4 j; omega)
        have dc : CmpR .GtE (natV ((cols.getD i []).getD k 0)) (natV ((cols.getD j []).getD k 0)) (decide ((cols.getD j []).getD k 0 ≤ (cols.getD i []).getD k 0)) := cmp_geF (decide_eq_decide.mpr Int.ofNat_le)
        walk_at "mw"
      · unfold natD
        walk_at "mw"
      · exact any_filter
      walk_at "mw"
      refine ⟨?_, ?_, ?_, ?_, ?_, ?_, ?_⟩
      · walk_at "ml"
      · walk_at "ml"
      · walk_at "ml"
      · walk_at "ml"
      · rw [List.map_append, List.map_append]; show At _ _ (.own ((pre.map (standB parts texts j)).map .bool ++ [.bool (standB parts texts j i)])); walk_at "ml"
      · rw [List.map_append, List.map_append]; show At _ _ (.own ((pre.map (smallB cols j)).map .bool ++ [.bool (smallB cols j i)])); walk_at "ml"
      · rw [List.map_append, List.map_append]; show At _ _ (.own ((pre.map (alikeB cols j)).map .bool ++ [.bool (alikeB cols j i)])); walk_at "ml"
    by_cases hp : i < parts.length
    · have d1 : CmpR .Lt (natV i) (natV parts.length) true := cmp_ltF (decide_eq_true (by omega))
      have t5 : SubR (.d (.list (parts.map pairD))) (i : Int) (.d (.tuple [tx (parts.getD i ([], [])).1, tx (parts.getD i ([], [])).2])) := sub_map (f := pairD) (d := ([], [])) hp (by omega)
      have p0 : SubR (.d (.tuple [tx (parts.getD i ([], [])).1, tx (parts.getD i ([], [])).2])) 0 (.d (tx (parts.getD i ([], [])).1)) := sub_tuple (k := 0) rfl (by simp)
      have p1 : SubR (.d (.tuple [tx (parts.getD i ([], [])).1, tx (parts.getD i ([], [])).2])) 1 (.d (tx (parts.getD i ([], [])).2)) := sub_tuple (k := 1) rfl (by simp)
      have c1' := c1 i hp
      rw [show fitsP (parts.getD i ([], [])).1 (parts.getD i ([], [])).2 (texts.getD j []) = standB parts texts j i from by unfold standB; rw [if_pos hp]] at c1'
      refine nx_cons (vs_ifT ?_ (vb_last (vs_append (d := .bool (standB parts texts j i)) (by kernel_rfl) (by kernel_rfl) (by kernel_rfl) (by kernel_rfl) (look_past (by kernel_rfl) i5) (fun _ _ => rfl) ?_ s5))) (fin _ ?_ ?_ ?_ ?_ ?_ look_here ?_ ?_)
      · walk_at "mw"
      · walk_at "mw"
      all_goals walk_at "ml"
    · have d1 : CmpR .Lt (natV i) (natV parts.length) false := cmp_ltF (decide_eq_false (by omega))
      have c3 := cmp_eqT (show (texts.getD i [] == texts.getD j []) = standB parts texts j i from by unfold standB; rw [if_neg hp]) (ho i) (ho j)
      refine nx_cons (vs_ifF ?_ (vb_last (vs_append (d := .bool (standB parts texts j i)) (by kernel_rfl) (by kernel_rfl) (by kernel_rfl) (by kernel_rfl) (look_past (by kernel_rfl) i5) (fun _ _ => rfl) ?_ s5))) (fin _ ?_ ?_ ?_ ?_ ?_ look_here ?_ ?_)
      · walk_at "mw"
      · walk_at "mw"
      all_goals walk_at "ml"
  · intro ρ hi
    obtain ⟨i1, i2, i3, i4, i5, i6, i7⟩ := hi
    have u1 := c2 ((List.range texts.length).map (standB parts texts j)) (by rw [List.length_map, List.length_range])
    have u2 := c2 ((List.range texts.length).map (smallB cols j)) (by rw [List.length_map, List.length_range])
    have u3 := c2 ((List.range texts.length).map (alikeB cols j)) (by rw [List.length_map, List.length_range])
    unfold rowsD
    walk_at "mw"
end
/-! ## _split_list with a lambda -/
noncomputable def splitBy (n : Nat) (pb : Nat → Bool) : List Nat × List Nat := ((List.range n).filter pb, (List.range n).filter fun k => !pb k)
section
variable {w : World} {K : Frag} {l : Nat}
theorem items_nats {ns : List Nat} : ItemsR (.d (natsD ns)) (ns.map natV) := by
  have h := ItemsR.list (ns.map natD)
  rw [List.map_map] at h
  exact h
theorem split_bk {f : Addr} {n : Nat} {pb : Nat → Bool} (hn : n ≤ 500) (hc : ∀ k, k < n → CallOk w K l (.fn (.ref f)) [natV k] (.d (.bool (pb k)))) :
    VB w K l (fnSc (topSt 4)) [("yes", true), ("no", true)] [("s", .d (natsD (List.range n))), ("predicate", .fn (.ref f))] (fnBody (topSt 4)) (.ret (.d (partedD (splitBy n pb)))) := by
  conv => arg 7; whnf
  walk_at "mw"
  refine vb_for (fun pre ρ => At ρ "predicate" (.fn (.ref f)) ∧ At ρ "yes" (.own ((pre.filter pb).map natD)) ∧ At ρ "no" (.own ((pre.filter fun k => !pb k).map natD))) natV (List.range n) (v := .d (natsD (List.range n))) (fun _ _ => rfl) (.inl rfl) (by kernel_rfl) ?_ rfl items_nats rfl ⟨?_, ?_, ?_⟩ ?_ ?_
  · walk_at "mw"
  · walk_at "ml"
  · show At _ _ (.own []); walk_at "ml"
  · show At _ _ (.own []); walk_at "ml"
  · intro pre k post ρ hxs hi
    obtain ⟨i1, i2, i3⟩ := hi
    obtain ⟨hk, hpre⟩ := range_split hxs
    have hpl : pre.length = k := by rw [hpre, List.length_range]
    have u := hc k hk
    have s1 : short ((pre.filter pb).map natD).length = true := short_of (by rw [List.length_map]; have := List.length_filter_le pb pre; omega)
    have s2 : short ((pre.filter fun k => !pb k).map natD).length = true := short_of (by rw [List.length_map]; have := List.length_filter_le (fun k => !pb k) pre; omega)
    cases hp : pb k with
    | true =>
      rw [hp] at u
      have f1 : ((pre ++ [k]).filter pb).map natD = (pre.filter pb).map natD ++ [natD k] := by rw [List.filter_append, List.map_append]; simp [hp]
      have f2 : ((pre ++ [k]).filter fun k => !pb k) = pre.filter fun k => !pb k := by rw [List.filter_append]; simp [hp]
      walk_at "mw"
      show _ ∧ At _ _ (.own (((pre ++ [k]).filter pb).map natD)) ∧ At _ _ (.own (((pre ++ [k]).filter fun k => !pb k).map natD))
      rw [f1, f2]
      refine ⟨?_, look_here, ?_⟩ <;> walk_at "ml"
    | false =>
      rw [hp] at u
      have f1 : (pre ++ [k]).filter pb = pre.filter pb := by rw [List.filter_append]; simp [hp]
      have f2 : ((pre ++ [k]).filter fun k => !pb k).map natD = ((pre.filter fun k => !pb k).map natD) ++ [natD k] := by rw [List.filter_append, List.map_append]; simp [hp]
      walk_at "mw"
      show _ ∧ At _ _ (.own (((pre ++ [k]).filter pb).map natD)) ∧ At _ _ (.own (((pre ++ [k]).filter fun k => !pb k).map natD))
      rw [f1, f2]
      refine ⟨?_, ?_, look_here⟩ <;> walk_at "ml"
  · intro ρ hi
    obtain ⟨i1, i2, i3⟩ := hi
    unfold partedD splitBy natsD
    walk_at "mw"
theorem parted_split {n : Nat} {p : Nat → Bool} : partedP ((List.range n).map p) = splitBy n p := by
  unfold partedP splitBy
  rw [List.length_map, List.length_range]
  have key : ∀ i ∈ List.range n, ((List.range n).map p).getD i false = p i := by
    intro i hi
    have hi := List.mem_range.mp hi
    rw [List.getD_eq_getElem?_getD, List.getElem?_map, List.getElem?_range hi]; rfl
  have e1 : (List.range n).filter (fun i => ((List.range n).map p).getD i false) = (List.range n).filter p := List.filter_congr fun i hi => key i hi
  have e2 : (List.range n).filter (fun i => !((List.range n).map p).getD i false) = (List.range n).filter fun k => !p k := List.filter_congr fun i hi => by rw [key i hi]
  rw [e1, e2]

/-! ## _law_asked -/
noncomputable def askedSt : Stmt := (fnBody (topSt 18)).getD 0 (.Pass ⟨0, 0, 0, 0⟩)
noncomputable def askedItem (k : Nat) : Expr := match (fnBody (topSt 18)).getD 1 (.Pass ⟨0, 0, 0, 0⟩) with
  | .Return (some (.List es _)) _ => es.getD k (.Constant .none 0 ⟨0, 0, 0, 0⟩)
  | _ => .Constant .none 0 ⟨0, 0, 0, 0⟩
noncomputable def lamB : Expr → Expr
  | .Call _ [_, .Lambda _ b _ _] _ _ => b
  | e => e
noncomputable def lamS : Expr → Sc
  | .Call _ [_, .Lambda _ _ s _] _ _ => s.names
  | _ => []
theorem list0_call {n : Nat} (h : n ≤ 1000000) : CallOk w K l (.fn (.type "list")) [.rng 0 (n : Int)] (.d (natsD (List.range n))) := by
  have c := list_call (w := w) (K := K) (l := l) (a := 0) (b := (n : Int)) rfl (small_nat h) (short_of (by omega))
  have e : (intRange 0 (n : Int)).map PyData.int = (List.range n).map natD := by
    unfold intRange
    rw [List.map_map, Int.sub_zero, Int.toNat_natCast]
    apply List.map_congr_left
    intro k _
    show PyData.int (0 + (k : Int)) = _
    rw [Int.zero_add]; rfl
  rw [e] at c
  exact c
noncomputable def askRho (pats texts : List (List Nat)) (spaces : List (List Nat)) (j : Nat) : Rho := [("patterns", .d (.list (pats.map tx))), ("texts", .d (.list (texts.map tx))), ("spaces", .wsl (spaces.map S)), ("j", natV j)]
theorem places_vs (g1 : GOk K "len" (.fn (.builtin "len"))) (g2 : GOk K "range" (.fn (.type "range"))) (g3 : GOk K "list" (.fn (.type "list"))) {pats texts spaces : List (List Nat)} {j : Nat} (h : texts.length ≤ 500) :
    VS w K l (fnSc (topSt 18)) [] (askRho pats texts spaces j) askedSt (.nx (setR "places" (.d (natsD (List.range texts.length))) (askRho pats texts spaces j))) := by
  conv => arg 7; whnf
  unfold askRho
  have l1 : CallOk w K l (.fn (.builtin "len")) [.d (.list (texts.map tx))] (natV texts.length) := len_map (by omega)
  have c1 : CallOk w K l (.fn (.type "list")) [.rng 0 (texts.length : Int)] (.d (natsD (List.range texts.length))) := list0_call (by omega)
  refine vs_name (fun _ _ => rfl) (by kernel_rfl) ?_ rfl
  walk_at "mw"
noncomputable abbrev askFrz (pats texts : List (List Nat)) (spaces : List (List Nat)) (j n : Nat) : Rho := frz (setR "places" (.d (natsD (List.range n))) (askRho pats texts spaces j))
theorem is_true {b : Bool} : CmpR .Is (.d (.bool b)) (.d (.bool true)) b := by
  have c := CmpR.is b true
  rw [show (b == true) = b by cases b <;> rfl] at c
  exact c
theorem sub_spaces {ts : List (List Nat)} {i : Nat} (h : i < ts.length) (hs : ts.length ≤ 1000) : SubR (.wsl (ts.map S)) (i : Int) (.ws (S (ts.getD i []))) :=
  .wsl (small_nat (by omega)) (aIdx_nat (by rw [List.length_map]; exact h)) (by rw [List.getElem?_map, List.getD_eq_getElem?_getD, List.getElem?_eq_getElem h]; rfl)
variable {pats texts spaces : List (List Nat)} {i j n : Nat} {b : Bool}
theorem lam1_ve (g : GOk K "_ellipsis_match" (.fn (.ref 49))) (h1 : pats.length ≤ 500) (h2 : texts.length ≤ 500) (hi : i < pats.length) (hj : j < texts.length) (u : CallOk w K l (.fn (.ref 49)) [.d (tx (pats.getD i [])), .d (tx (texts.getD j []))] (.d (.bool b))) :
    VE w K l (lamS (askedItem 0)) (("i", natV i) :: innerRho (lamS (askedItem 0)) (askFrz pats texts spaces j n)) (lamB (askedItem 0)) (.d (.bool b)) := by
  conv => arg 6; whnf
  unfold askFrz askRho
  have t1 : SubR (.d (.list (pats.map tx))) (i : Int) (.d (tx (pats.getD i []))) := sub_map hi (by omega)
  have t2 : SubR (.d (.list (texts.map tx))) (j : Int) (.d (tx (texts.getD j []))) := sub_map hj (by omega)
  have ci := is_true (b := b)
  walk_at "mw"
theorem lam2_ve (h1 : spaces.length ≤ 500) (hi : i < spaces.length) (hj : j < spaces.length) (u : MOk w K l (.ws (S (spaces.getD i []))) "less" [.ws (S (spaces.getD j []))] (.d (.bool b))) :
    VE w K l (lamS (askedItem 1)) (("i", natV i) :: innerRho (lamS (askedItem 1)) (askFrz pats texts spaces j n)) (lamB (askedItem 1)) (.d (.bool b)) := by
  conv => arg 6; whnf
  unfold askFrz askRho
  have t1 := sub_spaces hi (by omega)
  have t2 := sub_spaces hj (by omega)
  have ci := is_true (b := b)
  walk_at "mw"
theorem lam3_ve (h1 : spaces.length ≤ 500) (hi : i < spaces.length) (hj : j < spaces.length) (u : MOk w K l (.ws (S (spaces.getD i []))) "equal" [.ws (S (spaces.getD j []))] (.d (.bool b))) :
    VE w K l (lamS (askedItem 2)) (("i", natV i) :: innerRho (lamS (askedItem 2)) (askFrz pats texts spaces j n)) (lamB (askedItem 2)) (.d (.bool b)) := by
  conv => arg 6; whnf
  unfold askFrz askRho
  have t1 := sub_spaces hi (by omega)
  have t2 := sub_spaces hj (by omega)
  have ci := is_true (b := b)
  walk_at "mw"
theorem name_split {p : Pos} (g : GOk K "_split_list" (.fn (.ref 42))) : VE w K l (fnSc (topSt 18)) (askFrz pats texts spaces j n) (.Name "_split_list" p) (.fn (.ref 42)) := by
  walk_at "mw"
theorem name_places {p : Pos} : VE w K l (fnSc (topSt 18)) (askFrz pats texts spaces j n) (.Name "places" p) (.d (natsD (List.range n))) := by
  walk_at "mw"

/-! ## __init__, its stores -/
noncomputable def initSt (k : Nat) : Stmt := (fnBody (clsSt 1)).getD k (.Pass ⟨0, 0, 0, 0⟩)
noncomputable def stStore (d : PyData) : Stmt → StoreS
  | .Assign [.Attribute (.Name _ p) nm p'] v pos => ⟨nm, v, d, p, p', pos⟩
  | _ => ⟨"", .Constant .none 0 ⟨0, 0, 0, 0⟩, d, ⟨0, 0, 0, 0⟩, ⟨0, 0, 0, 0⟩, ⟨0, 0, 0, 0⟩⟩
variable {t : List Nat} {x : Addr} {ρ : Rho} {d : PyData}
theorem init_self {p : Pos} (h : At ρ "self" (.fn (.ref x))) : VE w K l (fnSc (clsSt 1)) ρ (.Name "self" p) (.fn (.ref x)) := by
  walk_at "mw"
theorem init_n (h : At ρ "n" (natV (nOf t).2.2.1)) : VE w K l (fnSc (clsSt 1)) ρ (stStore d (initSt 5)).value (natV (nOf t).2.2.1) := by
  conv => arg 6; whnf
  walk_at "mw"
theorem init_nt (h : At ρ "nt" (natV (nOf t).2.2.2)) : VE w K l (fnSc (clsSt 1)) ρ (stStore d (initSt 6)).value (natV (nOf t).2.2.2) := by
  conv => arg 6; whnf
  walk_at "mw"
theorem init_norm (g : GOk K "tuple" (.fn (.type "tuple"))) (hl : t.length ≤ 1000) (h : At ρ "count" (.own (intsD (nOf t).1))) (h' : At ρ "b" (natV (nOf t).2.1)) : VE w K l (fnSc (clsSt 1)) ρ (stStore d (initSt 7)).value (.d (normD t)) := by
  conv => arg 6; whnf
  have b := nOf_len hl
  have c := tuple_call (w := w) (K := K) (l := l) (ListR.own (intsD (nOf t).1)) (short_of (by rw [intsD_len]; omega))
  unfold normD natD
  walk_at "mw"
theorem init_simple (g : GOk K "len" (.fn (.builtin "len"))) (hl : t.length ≤ 1000) (h : At ρ "count" (.own (intsD (nOf t).1))) : VE w K l (fnSc (clsSt 1)) ρ (stStore d (initSt 8)).value (.d (.bool (decide ((nOf t).1.length ≤ 1)))) := by
  conv => arg 6; whnf
  have b := nOf_len hl
  have n1 : CallOk w K l (.fn (.builtin "len")) [.own (intsD (nOf t).1)] (natV (nOf t).1.length) := by
    have := len_call (w := w) (K := K) (l := l) (LenR.list (ListR.own (intsD (nOf t).1))) (short_of (by rw [intsD_len]; omega))
    rw [intsD_len] at this; exact this
  have c : CmpR .LtE (natV (nOf t).1.length) (.d (.int 1)) (decide ((nOf t).1.length ≤ 1)) := cmp_leF (decide_eq_decide.mpr (Int.ofNat_le (n := 1)))
  walk_at "mw"
end
noncomputable def initL (t : List Nat) : List StoreS := [stStore (natD (nOf t).2.2.1) (initSt 5), stStore (natD (nOf t).2.2.2) (initSt 6), stStore (normD t) (initSt 7), stStore (.bool (decide ((nOf t).1.length ≤ 1))) (initSt 8)]
theorem init_body (t : List Nat) : fnBody (clsSt 1) = (stStore (tx t) (initSt 0)).st "self" :: (initMid ++ (initL t).map (·.st "self")) := rfl
theorem init_ds (t : List Nat) : wsFields (S t) = ((("raw" : Str), PyData.str (S t)) :: (initL t).map fun a => (a.name, a.d)) := by
  rw [wsFields_eq]; rfl
theorem cmp_neF {x : PyData} (h : eqOk x = true) (h' : x.canLay0 = true) : CmpR .NotEq (.d x) (.d x) false := by
  have c := CmpR.ne h h
  rw [SeqAt.eqv_refl _ h'] at c
  exact c
theorem ne_texts {ts : List (List Nat)} (h : ∀ t ∈ ts, t.all okC = true) : CmpR .NotEq (.d (.list (ts.map tx))) (.d (.list (ts.map tx))) false := by
  have d : D 5 (.list (ts.map tx)) := D.list (k := 4) (fun x m => by
    obtain ⟨t, ht, rfl⟩ := List.mem_map.mp m
    exact D.tx (h t ht))
  exact cmp_neF (d.ok (by decide)) d.1
theorem D_nats {k : Nat} {l : List Nat} : D (k + 1) (natsD l) := D.list (ok_ints (l := l))
theorem ne_nats {l : List Nat} : CmpR .NotEq (.d (natsD l)) (.d (natsD l)) false := cmp_neF ((D_nats (k := 4)).ok (by decide)) (D_nats (k := 4)).1
theorem ne_cols {cs : List (List Nat)} : CmpR .NotEq (.d (.list (cs.map natsD))) (.d (.list (cs.map natsD))) false := by
  have d : D 6 (.list (cs.map natsD)) := D.list (k := 5) (fun x m => by
    obtain ⟨t, ht, rfl⟩ := List.mem_map.mp m
    exact D_nats)
  exact cmp_neF (d.ok (by decide)) d.1
theorem ne_rows {p q r : Nat → Bool} {n : Nat} : CmpR .NotEq (.d (.list (rowsD p q r n))) (.d (.list (rowsD p q r n))) false := by
  have D_parted : ∀ {p : List Nat × List Nat}, D 6 (partedD p) := D.tuple (k := 5) (fun x m => by
    rcases List.mem_cons.mp m with rfl | m
    · exact D_nats
    · rw [List.mem_singleton.mp m]; exact D_nats)
  have d : D 7 (.list (rowsD p q r n)) := D.list (k := 6) (fun x m => by
    unfold rowsD at m
    rcases List.mem_cons.mp m with rfl | m
    · exact D_parted
    · rcases List.mem_cons.mp m with rfl | m
      · exact D_parted
      · rw [List.mem_singleton.mp m]; exact D_parted)
  exact cmp_neF (d.ok (by decide)) d.1
theorem best_max {ns : List Nat} (k : Nat) : bestV (fun i => (ns.map fun n : Nat => (n : Int)).getD i 0) k = ((((List.range (k + 1)).map fun i => ns.getD i 0).foldl max 0 : Nat) : Int) := by
  induction k with
  | zero =>
    show (ns.map fun n : Nat => (n : Int)).getD 0 0 = _
    rw [cast_getD]; simp
  | succ k ih =>
    rw [bestV, ih, cast_getD, List.range_succ (n := k + 1), List.map_append, List.foldl_append]
    simp only [List.map_cons, List.map_nil, List.foldl_cons, List.foldl_nil]
    split <;> omega
theorem maxV_nat {ns : List Nat} (h : ns ≠ []) : maxV (ns.map fun n : Nat => (n : Int)) = ((ns.foldl max 0 : Nat) : Int) := by
  unfold maxV
  rw [List.length_map, best_max]
  have hl : ns.length - 1 + 1 = ns.length := Nat.succ_pred_eq_of_pos (List.length_pos_iff.mpr h)
  rw [hl]
  congr 2
  apply List.ext_getElem?
  intro i
  rw [List.getElem?_map]
  by_cases hi : i < ns.length
  · rw [List.getElem?_range hi, List.getElem?_eq_getElem hi]
    simp [List.getD_eq_getElem?_getD, hi]
  · rw [List.getElem?_eq_none (by simpa using hi), List.getElem?_eq_none (by simpa using hi)]; rfl
theorem max_nats {w : World} {K : Frag} {l : Nat} {ns : List Nat} (h : ns ≠ []) : CallOk w K l (.fn (.builtin "max")) [.d (.list (ns.map natD))] (natV (ns.foldl max 0)) := by
  have c := maxL_call (w := w) (K := K) (l := l) (ns := ns.map fun n : Nat => (n : Int)) (fun e => h (List.map_eq_nil_iff.mp e))
  rw [maxV_nat h, List.map_map] at c
  exact c

/-! ## the law -/
noncomputable def cramsP (parts : Parts) (lead : List Nat) : List (List Nat) := parts.map (fun p => p.1 ++ [46, 46, 46] ++ p.2) ++ [lead]
noncomputable def restsP (parts : Parts) (lead : List Nat) : List (List Nat) := parts.map (fun p => p.1 ++ p.2) ++ [lead]
noncomputable def runsP (t : List Nat) : List Nat := (splitP t [9]).map List.length
noncomputable def topP (texts : List (List Nat)) : Nat := 1 + (texts.flatMap runsP).foldl max 0
structure Gl (K : Frag) : Prop where
  len : GOk K "len" (.fn (.builtin "len"))
  max : GOk K "max" (.fn (.builtin "max"))
  range : GOk K "range" (.fn (.type "range"))
  list : GOk K "list" (.fn (.type "list"))
  tuple : GOk K "tuple" (.fn (.type "tuple"))
  marker : GOk K "ELLIPSIS_MARKER" (.d (tx [46, 46, 46]))
  replace : GOk K "replace" (.fn (.ref 28))
  cram : GOk K "cram" (.fn (.ref 35))
  split : GOk K "_split_list" (.fn (.ref 42))
  ell : GOk K "_ellipsis_match" (.fn (.ref 49))
  ws : GOk K "Whitespace" (.fn (.ref 111))
  leads : GOk K "_law_leads" (.fn (.ref 122))
  parts : GOk K "_law_parts" (.fn (.ref 129))
  columns : GOk K "_law_columns" (.fn (.ref 136))
  letters : GOk K "_law_letters" (.fn (.ref 141))
  fits : GOk K "_law_fits" (.fn (.ref 148))
  parted : GOk K "_law_parted" (.fn (.ref 153))
  told : GOk K "_law_told" (.fn (.ref 158))
  asked : GOk K "_law_asked" (.fn (.ref 165))
/-- the plain side of the law -/
structure LawP (xs : List Int) (lead other : List Nat) (parts : Parts) (r6 r7 : List Nat → List Nat) (top : Nat) : Prop where
  hx : xs.length ≤ 1000
  hl : 4 ≤ lead.length ∧ lead.length ≤ 100
  hp : parts.length ≤ 100
  hpl : ∀ x ∈ parts, x.1.length ≤ 100 ∧ x.2.length ≤ 100
  ol : lead.all okC = true
  oo : other.all okC = true
  op : ∀ x ∈ parts, x.1.all okC = true ∧ x.2.all okC = true
  h3 : (List.range (lead.length - 2)).map (fun k => cramP lead ((3 + k : Nat) : Int)) = cramsP parts lead
  h6 : (cramsP parts lead).map r6 = restsP parts lead
  h7 : (cramsP parts lead).map r7 = (restsP parts lead).map (·.map letP)
  h8 : (cramsP parts lead).map (fun t => (nOf t).2.2.1) = parts.map (·.1.length) ++ [lead.length]
  ht : ∀ t ∈ restsP parts lead ++ [other], t.length ≤ 100 ∧ (splitP t [9]).length ≤ 100 ∧ (∀ u ∈ splitP t [9], u.length ≤ 100)
  hne : (restsP parts lead ++ [other]).flatMap runsP ≠ []
  htl : ((restsP parts lead ++ [other]).flatMap runsP).length ≤ 100000
  htop : topP (restsP parts lead ++ [other]) = top
  htop' : top ≤ 500
/-- the calls that the law makes -/
structure LawC (w : World) (K : Frag) (l : Nat) (xs : List Int) (lead other : List Nat) (parts : Parts) (r6 r7 : List Nat → List Nat) (top : Nat) (p q r : Nat → Nat → Bool) : Prop where
  c122 : CallOk w K l (.fn (.ref 122)) [.d (.list (xs.map .int))] (.d (.tuple [tx lead, tx other]))
  c129 : CallOk w K l (.fn (.ref 129)) [.d (tx lead)] (.d (.list (parts.map pairD)))
  c35 : ∀ k, k < lead.length - 2 → CallOk w K l (.fn (.ref 35)) [.d (tx lead), natV (3 + k)] (.d (tx (cramP lead ((3 + k : Nat) : Int))))
  h4 : ∀ n ∈ ([-2, 0, 2] : List Int), CallOk w K l (.fn (.ref 35)) [.d (tx lead), .d (.int n)] (.d (tx [46, 46, 46]))
  c28a : ∀ t ∈ cramsP parts lead, CallOk w K l (.fn (.ref 28)) [.d (tx t), .d (tx [46, 46, 46]), .d (tx [])] (.d (tx (r6 t)))
  c28b : ∀ t ∈ cramsP parts lead, CallOk w K l (.fn (.ref 28)) [.d (tx t), .d (tx [46, 46, 46]), .d (tx []), .d (tx [32]), .d (tx [97, 98]), .d (tx [9]), .d (tx [99]), .d (tx [98]), .d (tx [])] (.d (tx (r7 t)))
  c141 : ∀ t ∈ restsP parts lead, CallOk w K l (.fn (.ref 141)) [.d (tx t)] (.d (tx (t.map letP)))
  c111a : ∀ t ∈ cramsP parts lead, CallOk w K l (.fn (.ref 111)) [.d (tx t)] (.ws (S t))
  c111b : ∀ t ∈ restsP parts lead ++ [other], CallOk w K l (.fn (.ref 111)) [.d (tx t)] (.ws (S t))
  c136 : ∀ t ∈ restsP parts lead ++ [other], CallOk w K l (.fn (.ref 136)) [.d (tx t), natV top] (.d (natsD (colsP t top)))
  h14 : ∀ t ∈ restsP parts lead ++ [other], ∀ k, k < top → MOk w K l (.ws (S t)) "indent_level" [succV k] (natV (colP (k + 1) t))
  c165 : ∀ j, j < (restsP parts lead ++ [other]).length → CallOk w K l (.fn (.ref 165)) [.d (.list ((cramsP parts lead ++ [other]).map tx)), .d (.list ((restsP parts lead ++ [other]).map tx)), .wsl ((restsP parts lead ++ [other]).map S), natV j] (.d (.list (rowsD (p j) (q j) (r j) (restsP parts lead ++ [other]).length)))
  c158 : ∀ j, j < (restsP parts lead ++ [other]).length → CallOk w K l (.fn (.ref 158)) [.d (.list (parts.map pairD)), .d (.list ((restsP parts lead ++ [other]).map tx)), .d (.list (((restsP parts lead ++ [other]).map fun t => colsP t top).map natsD)), natV j] (.d (.list (rowsD (p j) (q j) (r j) (restsP parts lead ++ [other]).length)))
theorem all_let {t : List Nat} : (t.map letP).all okC = true := by
  rw [List.all_map]
  refine List.all_eq_true.mpr fun x _ => ?_
  show okC (letP x) = true
  unfold letP
  split <;> rfl
theorem items_texts {ts : List (List Nat)} : ItemsR (.d (.list (ts.map tx))) (ts.map fun t => V.d (tx t)) := by
  have h := ItemsR.list (ts.map tx)
  rw [List.map_map] at h
  exact h
theorem items_pairs {ps : Parts} : ItemsR (.d (.list (ps.map pairD))) (ps.map fun p => V.d (.tuple [tx p.1, tx p.2])) := by
  have h := ItemsR.list (ps.map pairD)
  rw [List.map_map] at h
  exact h
theorem items_wss {ts : List (List Nat)} : ItemsR (.wsl (ts.map S)) (ts.map fun t => V.ws (S t)) := by
  have h := ItemsR.wsl (ts.map S)
  rw [List.map_map] at h
  exact h
theorem add_texts {a b c : List (List Nat)} (h : a ++ b = c) (ha : a.length ≤ 1000) (hb : b.length ≤ 1000) : BinR .Add (.d (.list (a.map tx))) (.d (.list (b.map tx))) (.d (.list (c.map tx))) := by
  have q := BinR.addL (ListR.d (a.map tx)) (ListR.d (b.map tx)) (short_of (by rw [List.length_map]; omega)) (short_of (by rw [List.length_map]; omega))
  rw [← List.map_append, h] at q
  exact q
section
variable {w : World} {K : Frag} {l : Nat}
theorem law_bk (G : Gl K) (at_ : AttrsW w K) {xs : List Int} {lead other : List Nat} {parts : Parts} {r6 r7 : List Nat → List Nat} {top : Nat} {p q r : Nat → Nat → Bool} (H : LawP xs lead other parts r6 r7 top) (C : LawC w K l xs lead other parts r6 r7 top p q r) :
    VB w K l (fnSc (topSt 19)) [] [("script", .d (.list (xs.map .int)))] (fnBody (topSt 19)) (.ret (.d (.bool true))) := by
  conv => arg 7; whnf
  obtain ⟨g1, g2, g3, g4, g5, g6, g7, g8, g9, g10, g11, g12, g13, g14, g15, g16, g17, g18, g19⟩ := G
  have l1 := H.hl
  have lp := H.hp
  have s1 : short lead.length = true := short_of (by omega)
  have sp : short parts.length = true := short_of (by omega)
  have e1 : ItemsR (.rng 3 ((lead.length : Int) + 1)) ((List.range (lead.length - 2)).map fun k => natV (3 + k)) := items_rngT (a := 3) (b := lead.length + 1) (by decide) (by omega)
  have lcr : (cramsP parts lead).length = parts.length + 1 := by unfold cramsP; rw [List.length_append, List.length_map]; rfl
  have lrs : (restsP parts lead).length = parts.length + 1 := by unfold restsP; rw [List.length_append, List.length_map]; rfl
  have scr : short (cramsP parts lead).length = true := short_of (by omega)
  have srs : short (restsP parts lead).length = true := short_of (by omega)
  have c1 := C.c122
  have c2 := C.c129
  have ocr : ∀ t ∈ cramsP parts lead, t.all okC = true := by
    intro t ht
    unfold cramsP at ht
    rcases List.mem_append.mp ht with ht | ht
    · obtain ⟨x, hx, rfl⟩ := List.mem_map.mp ht
      have := H.op x hx
      rw [List.all_append, List.all_append, this.1, this.2]; rfl
    · rw [List.mem_singleton.mp ht]; exact H.ol
  have ors : ∀ t ∈ restsP parts lead, t.all okC = true := by
    intro t ht
    unfold restsP at ht
    rcases List.mem_append.mp ht with ht | ht
    · obtain ⟨x, hx, rfl⟩ := List.mem_map.mp ht
      have := H.op x hx
      rw [List.all_append, this.1, this.2]; rfl
    · rw [List.mem_singleton.mp ht]; exact H.ol
  have pl : ∀ x ∈ parts, short x.1.length = true ∧ short x.2.length = true ∧ short (x.1 ++ [46, 46, 46]).length = true := by
    intro x hx
    have := H.hpl x hx
    exact ⟨short_of (by omega), short_of (by omega), short_of (by rw [List.length_append]; show x.1.length + 3 ≤ _; omega)⟩
  have sdots : short ([46, 46, 46] : List Nat).length = true := rfl
  -- lead, other, parts
  refine vb_cons (vs_tuple (d1 := tx lead) (d2 := tx other) (fun _ _ => rfl) (fun _ => .inl rfl) (by kernel_rfl) (by kernel_rfl) (by kernel_rfl) ?_) (vb_cons (vs_name (v := .d (.list (parts.map pairD))) (fun _ _ => rfl) (by kernel_rfl) ?_ rfl) ?_)
  · walk_at "mw"
  · walk_at "mw"
  -- crammed
  refine vb_cons (vs_comp (v := .d (.list ((cramsP parts lead).map tx))) (by kernel_rfl) ?_ rfl) ?_
  · rw [← H.h3, List.map_map]
    refine vc_map (fun k => natV (3 + k)) _ ⟨rfl, by kernel_rfl, by kernel_rfl⟩ (fun _ _ => rfl) (v0 := .rng 3 ((lead.length : Int) + 1)) ?_ rfl e1 rfl (by kernel_rfl) (short_of (by rw [List.length_range]; omega)) fun k hk => ?_
    · walk_at "mw"
    · have u := C.c35 k (List.mem_range.mp hk)
      show VE _ _ _ _ _ _ (.d (tx (cramP lead ((3 + k : Nat) : Int))))
      walk_at "mw"
  have ncr := ne_texts ocr
  have A3 : BinR .Add (.d (.list (parts.map fun p => tx (p.1 ++ [46, 46, 46] ++ p.2)))) (.d (.list [tx lead])) (.d (.list ((cramsP parts lead).map tx))) := by
    have := add_texts (a := parts.map fun p => p.1 ++ [46, 46, 46] ++ p.2) (b := [lead]) rfl (by rw [List.length_map]; omega) (by show 1 ≤ _; omega)
    rw [List.map_map] at this; exact this
  refine vb_cons (vs_ifF (vt_cmp (by kernel_rfl) ?_ (ve_bin (ve_comp (vc_pair (fun p => tx p.1) (fun p => tx p.2) (fun p => tx (p.1 ++ [46, 46, 46] ++ p.2)) ⟨rfl, by kernel_rfl, by kernel_rfl⟩ (fun _ _ => rfl) ?_ rfl items_pairs rfl (by kernel_rfl) (by kernel_rfl) (by kernel_rfl) sp fun x hx => ?_)) ?_ A3) ncr) vb_nil) ?_
  · walk_at "mw"
  · walk_at "mw"
  · obtain ⟨q1, q2, q3⟩ := pl x hx
    walk_at "mw"
  · walk_at "mw"
  -- the widths without room
  refine vb_cons (vs_ifF (vt_cmp (by kernel_rfl) (ve_comp (vc_map (fun n => V.d (.int n)) (fun _ => tx [46, 46, 46]) ⟨rfl, by kernel_rfl, by kernel_rfl⟩ (fun _ _ => rfl) (v0 := .d (.tuple [.int (-2), .int 0, .int 2])) ?_ rfl (.tuple _) (xs := [-2, 0, 2]) rfl (by kernel_rfl) rfl fun n hn => ?_)) (vb := .d (.list [tx [46, 46, 46], tx [46, 46, 46], tx [46, 46, 46]])) ?_ (ne_texts (ts := [[46, 46, 46], [46, 46, 46], [46, 46, 46]]) (by decide))) vb_nil) ?_
  · walk_at "mw"
  · have u := C.h4 n hn
    walk_at "mw"
  · walk_at "mw"
  -- rests
  have A5 : BinR .Add (.d (.list (parts.map fun p => tx (p.1 ++ p.2)))) (.d (.list [tx lead])) (.d (.list ((restsP parts lead).map tx))) := by
    have := add_texts (a := parts.map fun p => p.1 ++ p.2) (b := [lead]) rfl (by rw [List.length_map]; omega) (by show 1 ≤ _; omega)
    rw [List.map_map] at this; exact this
  refine vb_cons (vs_name (fun _ _ => rfl) (by kernel_rfl) (ve_bin (ve_comp (vc_pair (fun p => tx p.1) (fun p => tx p.2) (fun p => tx (p.1 ++ p.2)) ⟨rfl, by kernel_rfl, by kernel_rfl⟩ (fun _ _ => rfl) ?_ rfl items_pairs rfl (by kernel_rfl) (by kernel_rfl) (by kernel_rfl) sp fun x hx => ?_)) ?_ A5) rfl) ?_
  · walk_at "mw"
  · obtain ⟨q1, q2, q3⟩ := pl x hx
    walk_at "mw"
  · walk_at "mw"
  -- replace
  refine vb_cons (vs_ifF (vt_cmp (by kernel_rfl) (va := .d (.list ((restsP parts lead).map tx))) (vb := .d (.list ((restsP parts lead).map tx))) ?_ ?_ (ne_texts ors)) vb_nil) ?_
  · rw [← H.h6, List.map_map]
    refine ve_comp (vc_map (fun t => V.d (tx t)) _ ⟨rfl, by kernel_rfl, by kernel_rfl⟩ (fun _ _ => rfl) ?_ rfl items_texts rfl (by kernel_rfl) scr fun t ht => ?_)
    · walk_at "mw"
    · have u := C.c28a t ht
      show VE _ _ _ _ _ _ (.d (tx (r6 t)))
      walk_at "mw"
  · walk_at "mw"
  -- letters
  have nlt := ne_texts (ts := (restsP parts lead).map (·.map letP)) (fun t ht => by obtain ⟨u, _, rfl⟩ := List.mem_map.mp ht; exact all_let)
  refine vb_cons (vs_ifF (vt_cmp (by kernel_rfl) (va := .d (.list (((restsP parts lead).map (·.map letP)).map tx))) (vb := .d (.list (((restsP parts lead).map (·.map letP)).map tx))) ?_ ?_ nlt) vb_nil) ?_
  · rw [← H.h7, List.map_map]
    refine ve_comp (vc_map (fun t => V.d (tx t)) _ ⟨rfl, by kernel_rfl, by kernel_rfl⟩ (fun _ _ => rfl) ?_ rfl items_texts rfl (by kernel_rfl) scr fun t ht => ?_)
    · walk_at "mw"
    · have u := C.c28b t ht
      show VE _ _ _ _ _ _ (.d (tx (r7 t)))
      walk_at "mw"
  · rw [List.map_map]
    refine ve_comp (vc_map (fun t => V.d (tx t)) _ ⟨rfl, by kernel_rfl, by kernel_rfl⟩ (fun _ _ => rfl) ?_ rfl items_texts rfl (by kernel_rfl) srs fun t ht => ?_)
    · walk_at "mw"
    · have u := C.c141 t ht
      show VE _ _ _ _ _ _ (.d (tx (t.map letP)))
      walk_at "mw"
  -- signs ahead of the dots
  have A8 : BinR .Add (.d (.list (parts.map fun p => natD p.1.length))) (.d (.list [natD lead.length])) (.d (natsD (parts.map (·.1.length) ++ [lead.length]))) := by
    have q := BinR.addL (ListR.d (parts.map fun p => natD p.1.length)) (ListR.d [natD lead.length]) (short_of (by rw [List.length_map]; omega)) rfl
    unfold natsD
    rw [List.map_append, List.map_map]
    exact q
  refine vb_cons (vs_ifF (vt_cmp (by kernel_rfl) (va := .d (natsD (parts.map (·.1.length) ++ [lead.length]))) ?_ (ve_bin (ve_comp (vc_pair (fun p => tx p.1) (fun p => tx p.2) (fun p => natD p.1.length) ⟨rfl, by kernel_rfl, by kernel_rfl⟩ (fun _ _ => rfl) ?_ rfl items_pairs rfl (by kernel_rfl) (by kernel_rfl) (by kernel_rfl) sp fun x hx => ?_)) ?_ A8) ne_nats) vb_nil) ?_
  · rw [← H.h8]
    unfold natsD
    rw [List.map_map]
    refine ve_comp (vc_map (fun t => V.d (tx t)) _ ⟨rfl, by kernel_rfl, by kernel_rfl⟩ (fun _ _ => rfl) ?_ rfl items_texts rfl (by kernel_rfl) scr fun t ht => ?_)
    · walk_at "mw"
    · have u := C.c111a t ht
      have a := at_.n t
      show VE _ _ _ _ _ _ (natV (nOf t).2.2.1)
      walk_at "mw"
  · walk_at "mw"
  · obtain ⟨q1, q2, q3⟩ := pl x hx
    unfold natD
    walk_at "mw"
  · unfold natD
    walk_at "mw"
  -- texts, patterns
  have lts : (restsP parts lead ++ [other]).length = parts.length + 2 := by rw [List.length_append, lrs]; rfl
  have A9 : BinR .Add (.d (.list ((restsP parts lead).map tx))) (.d (.list [tx other])) (.d (.list ((restsP parts lead ++ [other]).map tx))) := add_texts (b := [other]) rfl (by omega) (by show 1 ≤ _; omega)
  have A10 : BinR .Add (.d (.list ((cramsP parts lead).map tx))) (.d (.list [tx other])) (.d (.list ((cramsP parts lead ++ [other]).map tx))) := add_texts (b := [other]) rfl (by omega) (by show 1 ≤ _; omega)
  have sts : short (restsP parts lead ++ [other]).length = true := short_of (by omega)
  refine vb_cons (vs_name (v := .d (.list ((restsP parts lead ++ [other]).map tx))) (fun _ _ => rfl) (by kernel_rfl) ?_ rfl) (vb_cons (vs_name (v := .d (.list ((cramsP parts lead ++ [other]).map tx))) (fun _ _ => rfl) (by kernel_rfl) ?_ rfl) ?_)
  · walk_at "mw"
  · walk_at "mw"
  -- spaces
  refine vb_cons (vs_comp (by kernel_rfl) (vc_ws (fun t => V.d (tx t)) S ⟨rfl, by kernel_rfl, by kernel_rfl⟩ (fun _ _ => rfl) ?_ rfl items_texts rfl (by kernel_rfl) sts fun t ht => ?_) rfl) ?_
  · walk_at "mw"
  · have u := C.c111b t ht
    walk_at "mw"
  -- top
  have bm := max_nats (w := w) (K := K) (l := l) H.hne
  have e2 : ((restsP parts lead ++ [other]).flatMap runsP).map natD = (restsP parts lead ++ [other]).flatMap fun t => (splitP t [9]).map fun u => natD u.length := by
    unfold runsP
    rw [List.map_flatMap]
    congr 1
    funext t
    rw [List.map_map]; rfl
  rw [e2] at bm
  have tp : BinR .Add (.d (.int 1)) (natV (((restsP parts lead ++ [other]).flatMap runsP).foldl max 0)) (natV top) := addI_eq (by rw [← H.htop]; unfold topP; rw [Int.natCast_add]; rfl)
  have sr : short ((restsP parts lead ++ [other]).flatMap fun t => (splitP t [9]).map fun u => natD u.length).length = true := by rw [← e2, List.length_map]; exact short_of (by have := H.htl; omega)
  refine vb_cons (vs_name (fun _ _ => rfl) (by kernel_rfl) (ve_bin ve_int (ve_call (vf := .fn (.builtin "max")) ?_ (va_cons (fun _ _ => rfl) (ve_two (fun t => V.d (tx t)) (fun t => splitP t [9]) (fun u => V.d (tx u)) (fun u => natD u.length) ⟨rfl, by kernel_rfl, by kernel_rfl⟩ (fun _ _ => rfl) (fun _ _ => rfl) ?_ rfl items_texts rfl (by kernel_rfl) (by kernel_rfl) (fun t ht => ⟨.d (.list ((splitP t [9]).map tx)), ?_, rfl, items_texts⟩) (fun t ht u hu => ?_) sr) .nil) bm) tp) rfl) ?_
  · walk_at "mw"
  · walk_at "mw"
  · obtain ⟨t1, t2, t3⟩ := H.ht t ht
    have u := meth_split (a := t) (b := [9]) (short_of (by omega)) rfl (short_of (by omega))
    walk_at "mw"
  · obtain ⟨t1, t2, t3⟩ := H.ht t ht
    have s := short_of (n := u.length) (by have := t3 u hu; omega)
    unfold natD
    walk_at "mw"
  -- columns
  refine vb_cons (vs_comp (v := .d (.list (((restsP parts lead ++ [other]).map fun t => colsP t top).map natsD))) (by kernel_rfl) ?_ rfl) ?_
  · rw [List.map_map]
    refine vc_map (fun t => V.d (tx t)) _ ⟨rfl, by kernel_rfl, by kernel_rfl⟩ (fun _ _ => rfl) ?_ rfl items_texts rfl (by kernel_rfl) sts fun t ht => ?_
    · walk_at "mw"
    · have u := C.c136 t ht
      show VE _ _ _ _ _ _ (.d (natsD (colsP t top)))
      walk_at "mw"
  -- indent_level
  have ei := items_rng1 (n := (top : Int) + 1) (by omega) (by have := H.htop'; omega)
  rw [show ((top : Int) + 1 - 1).toNat = top from by omega] at ei
  refine vb_cons (vs_ifF (vt_cmp (by kernel_rfl) (va := .d (.list (((restsP parts lead ++ [other]).map fun t => colsP t top).map natsD))) (vb := .d (.list (((restsP parts lead ++ [other]).map fun t => colsP t top).map natsD))) ?_ ?_ ne_cols) vb_nil) ?_
  · rw [List.map_map]
    refine ve_comp (vc_map (fun t => V.ws (S t)) _ ⟨rfl, by kernel_rfl, by kernel_rfl⟩ (fun _ _ => rfl) ?_ rfl items_wss rfl (by kernel_rfl) sts fun t ht => ?_)
    · walk_at "mw"
    · show VE _ _ _ _ _ _ (.d (.list (((List.range top).map fun k => colP (k + 1) t).map natD)))
      rw [List.map_map]
      refine ve_comp (vc_map succV _ ⟨rfl, by kernel_rfl, by kernel_rfl⟩ (fun _ _ => rfl) (v0 := .rng 1 ((top : Int) + 1)) ?_ rfl ei rfl (by kernel_rfl) (short_of (by rw [List.length_range]; have := H.htop'; omega)) fun k hk => ?_)
      · walk_at "mw"
      · have u := C.h14 t ht k (List.mem_range.mp hk)
        show VE _ _ _ _ _ _ (natV (colP (k + 1) t))
        walk_at "mw"
  · walk_at "mw"
  -- the turns
  have ej := items_rng0 (n := (restsP parts lead ++ [other]).length) (by omega)
  have l3 : CallOk w K l (.fn (.builtin "len")) [.d (.list ((restsP parts lead ++ [other]).map tx))] (natV (restsP parts lead ++ [other]).length) := len_map (by omega)
  refine vb_for (fun pre ρ => At ρ "patterns" (.d (.list ((cramsP parts lead ++ [other]).map tx))) ∧ At ρ "texts" (.d (.list ((restsP parts lead ++ [other]).map tx))) ∧ At ρ "spaces" (.wsl ((restsP parts lead ++ [other]).map S)) ∧ At ρ "parts" (.d (.list (parts.map pairD))) ∧
    At ρ "columns" (.d (.list (((restsP parts lead ++ [other]).map fun t => colsP t top).map natsD)))) natV (List.range (restsP parts lead ++ [other]).length) (v := .rng 0 ((restsP parts lead ++ [other]).length : Int)) (fun _ _ => rfl) (.inl rfl) (by kernel_rfl) ?_ rfl ej rfl ⟨?_, ?_, ?_, ?_, ?_⟩ ?_ ?_
  · walk_at "mw"
  · walk_at "ml"
  · walk_at "ml"
  · walk_at "ml"
  · walk_at "ml"
  · walk_at "ml"
  · intro pre j post ρ hxs hi
    obtain ⟨i1, i2, i3, i4, i5⟩ := hi
    obtain ⟨hk, hpre⟩ := range_split hxs
    have u1 := C.c165 j hk
    have u2 := C.c158 j hk
    have o := ne_rows (p := p j) (q := q j) (r := r j) (n := (restsP parts lead ++ [other]).length)
    walk_at "mw"
    refine ⟨?_, ?_, ?_, ?_, ?_⟩ <;> walk_at "ml"
  · intro ρ hi
    walk_at "mw"
end
end Mine
namespace Mine
open PySem PySem.Spec PySem.Calls PySem.W PyProof.Rows
open PySem.Builtin PySem.Builtin.Str

/-! ## what the top holds -/
structure FnTop (K : Frag) (a : Addr) (st : Stmt) (names : List Str) : Prop where
  ex : ∃ fd, FnAt K a fd (fnBody st) ∧ fd.scope.names = fnSc st ∧ PlainBind fd names
structure TopOk (K : Frag) : Prop where
  gl : Gl K
  f28 : ∃ fd, FnAt K 28 fd (fnBody (topSt 2)) ∧ fd.scope.names = fnSc (topSt 2) ∧ ∀ t rest, (rest.length = 2 ∨ rest.length = 8) → bindArgs fd ⟨t :: rest, []⟩ = (newTuple rest >>= fun p => pure [(("text" : Str), t), (("pairs" : Str), p)])
  f35 : FnTop K 35 (topSt 3) ["text", "maxlen"]
  f42 : FnTop K 42 (topSt 4) ["s", "predicate"]
  f49 : FnTop K 49 (topSt 7) ["want", "got"]
  f122 : FnTop K 122 (topSt 11) ["script"]
  f129 : FnTop K 129 (topSt 12) ["lead"]
  f136 : FnTop K 136 (topSt 13) ["text", "top"]
  f141 : FnTop K 141 (topSt 14) ["text"]
  f148 : FnTop K 148 (topSt 15) ["front", "back", "text"]
  f153 : FnTop K 153 (topSt 16) ["answers"]
  f158 : FnTop K 158 (topSt 17) ["parts", "texts", "columns", "j"]
  f165 : ∃ fd, FnAt K 165 fd (fnBody (topSt 18)) ∧ fd.scope.names = fnSc (topSt 18) ∧ PlainBind fd ["patterns", "texts", "spaces", "j"] ∧ fd.code = .ref 164 ∧ (fd.qualname ++ (".<locals>." : Str)) ++ ("<lambda>" : Str) = QLAM
  f170 : FnTop K 170 (topSt 19) ["script"]
  f66 : FnTop K 66 (clsSt 1) ["self", "ws"]
  f73 : FnTop K 73 (clsSt 2) ["self"]
  f80 : FnTop K 80 (clsSt 3) ["self", "tabsize"]
  f87 : FnTop K 87 (clsSt 4) ["self", "other"]
  f101 : FnTop K 101 (clsSt 6) ["self", "other"]
  m73 : findIn K (.ref CLS) "longest_run_of_spaces" = some (some (.ref 73)) ∧ typeIn K (.ref 73) = some (.type "function")
  m80 : findIn K (.ref CLS) "indent_level" = some (some (.ref 80)) ∧ typeIn K (.ref 80) = some (.type "function")
  m87 : findIn K (.ref CLS) "equal" = some (some (.ref 87)) ∧ typeIn K (.ref 87) = some (.type "function")
  m101 : findIn K (.ref CLS) "less" = some (some (.ref 101)) ∧ typeIn K (.ref 101) = some (.type "function")
  ws : WsTop K
  made : WsMk K 66
  reads : readsIn K CLS (.type "type") = true
  clsS : ∃ t, findCls K (.ref CLS) (.type "type") "S" = some (.val (.str " " t))
  clsT : ∃ t, findCls K (.ref CLS) (.type "type") "T" = some (.val (.str "\t" t))
  lam : LamTop K

noncomputable def ownR (sc : Sc) (ρ : Rho) : Bool := ρ.all (fun p => isOwnB sc p.1 && notOwn p.2)
section
variable {w : World} {K : Frag} {l : Nat}
theorem fn_top {a : Addr} {st : Stmt} {names : List Str} (F : FnTop K a st names) {ow : List (Str × Bool)} {ρ : Rho} {r : V} (hn : names = ρ.map (·.1)) (hd : nodupS (ρ.map (·.1)) = true) (hown : ownR (fnSc st) ρ = true) (hr : VB w K l (fnSc st) ow ρ (fnBody st) (.ret r)) :
    CallOk w K (l + 1) (.fn (.ref a)) (ρ.map (·.2)) r := by
  obtain ⟨fd, F', hs, hb⟩ := F.ex
  subst hn
  exact fn_call F' (bind_plain hb) hd (by rw [hs]; exact hown) (by rw [hs]; exact hr.h)
theorem MOk.le {l l' : Nat} {o : V} {x : Str} {vs : List V} {r : V} (h : l ≤ l') (m : MOk w K l o x vs r) : MOk w K l' o x vs r := ⟨m.h.le h⟩
theorem GOk.sub {K' : Frag} {x : Str} {v : V} (k : Sub K K') (g : GOk K x v) : GOk K' x v := ⟨g.h.sub k⟩

/-! ## attributes, the class -/
theorem attrs (T : TopOk K) : AttrsW w K where
  raw l := ⟨attr_ws (x := "raw") T.ws (by simp) (by rw [wsFields_eq]; kernel_rfl)⟩
  n l := ⟨attr_ws (x := "n") T.ws (by simp) (by rw [wsFields_eq]; kernel_rfl)⟩
  nt l := ⟨attr_ws (x := "nt") T.ws (by simp) (by rw [wsFields_eq]; kernel_rfl)⟩
  norm l := ⟨attr_ws (x := "norm") T.ws (by simp) (by rw [wsFields_eq]; kernel_rfl)⟩
  simple l := ⟨attr_ws (x := "is_simple") T.ws (by simp) (by rw [wsFields_eq]; kernel_rfl)⟩
theorem cls_S (T : TopOk K) : AttrOk w K (.fn (.ref 111)) "S" (.d (tx [32])) := let ⟨_, ht⟩ := T.clsS; attr_cls T.reads ht
theorem cls_T (T : TopOk K) : AttrOk w K (.fn (.ref 111)) "T" (.d (tx [9])) := let ⟨_, ht⟩ := T.clsT; attr_cls T.reads ht
theorem ws_ok (T : TopOk K) {t : List Nat} (hl : t.length ≤ 1000) (oc : t.all okC = true) : CallOk w K (l + 2) (.fn (.ref 111)) [.d (tx t)] (.ws (S t)) := by
  obtain ⟨fd, F, hs, hb⟩ := T.f66.ex
  refine ws_make T.made F hb (a0 := stStore (tx t) (initSt 0)) (mid := initMid) (L := initL t) (init_body t) (t := S t) ?_ ?_ ?_ (init_ds t)
  · rw [hs]; exact ⟨by kernel_rfl, by kernel_rfl⟩
  · exact ⟨rfl, rfl, fun _ _ _ => rfl, _, rfl⟩
  · intro x K' sub a1
    obtain ⟨ρ', hB, M⟩ := init_mid (w := w) (K := K') (l := l) (T.gl.len.sub sub) (T.gl.ws.sub sub) hl oc ⟨a1⟩ ⟨(cls_S T).sub sub⟩ ⟨(cls_T T).sub sub⟩
    rw [hs]
    refine ⟨ρ', hB.h, fun a ha => ?_⟩
    unfold initL at ha
    rcases List.mem_cons.mp ha with rfl | ha
    · exact ⟨(init_self M.i1).h, (init_n M.i6).h, fun _ _ _ => rfl⟩
    rcases List.mem_cons.mp ha with rfl | ha
    · exact ⟨(init_self M.i1).h, (init_nt M.i7).h, fun _ _ _ => rfl⟩
    rcases List.mem_cons.mp ha with rfl | ha
    · exact ⟨(init_self M.i1).h, (init_norm T.gl.tuple hl M.i4 M.i5).h, fun _ _ _ => rfl⟩
    · rw [List.mem_singleton.mp ha]
      exact ⟨(init_self M.i1).h, (init_simple T.gl.len hl M.i4).h, fun _ _ _ => rfl⟩

/-! ## the defs -/
theorem c_replace (T : TopOk K) {t r : List Nat} {ps : List (List Nat)} (hl : ps.length = 2 ∨ ps.length = 8) (hr : replP ps t = some r) : CallOk w K (l + 1) (.fn (.ref 28)) (.d (tx t) :: (ps.map tx).map .d) (.d (tx r)) := by
  obtain ⟨fd, F, hs, hb⟩ := T.f28
  have h8 : (ps.map tx).length ≤ 8 := by rw [List.length_map]; omega
  exact fn_call F (ow := []) (ρ := [("text", .d (tx t)), ("pairs", .d (.tuple (ps.map tx)))]) (bind_star h8 fun t rest hr => hb t rest (by rw [hr, List.length_map]; exact hl)) rfl (by rw [hs]; kernel_rfl) (by rw [hs]; exact (replace_bk (by omega) hr).h)
theorem c_cram (T : TopOk K) {t : List Nat} {n : Int} (ht : t.length ≤ 1000) (h1 : -1000 ≤ n) (h2 : n ≤ 1000) : CallOk w K (l + 1) (.fn (.ref 35)) [.d (tx t), .d (.int n)] (.d (tx (cramP t n))) :=
  fn_top T.f35 (ρ := [("text", .d (tx t)), ("maxlen", .d (.int n))]) rfl rfl (by kernel_rfl) (cram_bk T.gl.len T.gl.max ht h1 h2)
theorem c_ellA (T : TopOk K) {wt g : List Nat} (hw : hasP [46, 46, 46] wt = false) (o1 : wt.all okC = true) (o2 : g.all okC = true) : CallOk w K (l + 1) (.fn (.ref 49)) [.d (tx wt), .d (tx g)] (.d (.bool (wt == g))) :=
  fn_top T.f49 (ρ := [("want", .d (tx wt)), ("got", .d (tx g))]) rfl rfl (by kernel_rfl) (ell_plain T.gl.marker hw o1 o2)
theorem c_ellB (T : TopOk K) {wt f b g : List Nat} (hw : hasP [46, 46, 46] wt = true) (hs : splitP wt [46, 46, 46] = [f, b]) (l1 : wt.length ≤ 1000) (l2 : f.length ≤ 1000) (l3 : b.length ≤ 1000) (l4 : g.length ≤ 1000) : CallOk w K (l + 1) (.fn (.ref 49)) [.d (tx wt), .d (tx g)] (.d (.bool (fitsP f b g))) :=
  fn_top T.f49 (ρ := [("want", .d (tx wt)), ("got", .d (tx g))]) rfl rfl (by kernel_rfl) (ell_dots T.gl.len T.gl.marker hw hs l1 l2 l3 l4)
theorem c_leads (T : TopOk K) {xs : List Int} (hx : xs.length ≤ 1000) : CallOk w K (l + 1) (.fn (.ref 122)) [.d (.list (xs.map .int))] (.d (.tuple [tx ((leadsP xs).1 ++ [9, 32, 32, 9]), tx (leadsP xs).2])) :=
  fn_top T.f122 (ρ := [("script", .d (.list (xs.map .int)))]) rfl rfl (by kernel_rfl) (leads_bk hx)
theorem c_parts (T : TopOk K) {t : List Nat} (h3 : 3 ≤ t.length) (hl : t.length ≤ 1000) : CallOk w K (l + 1) (.fn (.ref 129)) [.d (tx t)] (.d (.list ((partsP t).map pairD))) :=
  fn_top T.f129 (ρ := [("lead", .d (tx t))]) rfl rfl (by kernel_rfl) (parts_bk T.gl.len T.gl.range h3 hl)
theorem c_columns (T : TopOk K) {t : List Nat} {top : Nat} (hl : t.length ≤ 1000) (ht : top ≤ 1000) (hc : t.all okC = true) : CallOk w K (l + 1) (.fn (.ref 136)) [.d (tx t), natV top] (.d (natsD (colsP t top))) :=
  fn_top T.f136 (ρ := [("text", .d (tx t)), ("top", natV top)]) rfl rfl (by kernel_rfl) (columns_bk T.gl.range hl ht hc)
theorem c_letters (T : TopOk K) {t : List Nat} (hl : t.length ≤ 1000) (hc : t.all okC = true) : CallOk w K (l + 1) (.fn (.ref 141)) [.d (tx t)] (.d (tx (t.map letP))) :=
  fn_top T.f141 (ρ := [("text", .d (tx t))]) rfl rfl (by kernel_rfl) (letters_bk hl hc)
theorem c_fits (T : TopOk K) {f b t : List Nat} (h1 : f.length ≤ 1000) (h2 : b.length ≤ 1000) (h3 : t.length ≤ 1000) (o1 : f.all okC = true) (o2 : b.all okC = true) (o3 : t.all okC = true) : CallOk w K (l + 1) (.fn (.ref 148)) [.d (tx f), .d (tx b), .d (tx t)] (.d (.bool (fitsP f b t))) :=
  fn_top T.f148 (ρ := [("front", .d (tx f)), ("back", .d (tx b)), ("text", .d (tx t))]) rfl rfl (by kernel_rfl) (fits_bk T.gl.len h1 h2 h3 o1 o2 o3)
theorem c_parted (T : TopOk K) {bs : List Bool} (hl : bs.length ≤ 1000) : CallOk w K (l + 1) (.fn (.ref 153)) [.d (.list (bs.map .bool))] (.d (partedD (partedP bs))) :=
  fn_top T.f153 (ρ := [("answers", .d (.list (bs.map .bool)))]) rfl rfl (by kernel_rfl) (parted_bk T.gl.len T.gl.range hl)
theorem m_longest (T : TopOk K) {t : List Nat} (hl : t.length ≤ 1000) : MOk w K (l + 1) (.ws (S t)) "longest_run_of_spaces" [] (.d (.int (longI t))) :=
  ⟨meth_ws T.ws T.m73.1 T.m73.2 (by kernel_rfl) (fn_top T.f73 (ρ := [("self", .ws (S t))]) rfl rfl (by kernel_rfl) (longest_bk T.gl.len T.gl.max (attrs T) hl))⟩
theorem m_indent (T : TopOk K) {t : List Nat} {ts : Nat} (hl : t.length ≤ 1000) (h1 : 1 ≤ ts) (h2 : ts ≤ 1000) (ok : indOk t ts = true) : MOk w K (l + 1) (.ws (S t)) "indent_level" [natV ts] (natV (indN t ts)) :=
  ⟨meth_ws T.ws T.m80.1 T.m80.2 (by kernel_rfl) (fn_top T.f80 (ρ := [("self", .ws (S t)), ("tabsize", natV ts)]) rfl rfl (by kernel_rfl) (indent_bk T.gl.len T.gl.range (attrs T) hl h1 h2 ok))⟩
theorem m_equal (T : TopOk K) {t t' : List Nat} : MOk w K (l + 1) (.ws (S t)) "equal" [.ws (S t')] (.d (.bool (eqnP t t'))) :=
  ⟨meth_ws T.ws T.m87.1 T.m87.2 (by kernel_rfl) (fn_top T.f87 (ρ := [("self", .ws (S t)), ("other", .ws (S t'))]) rfl rfl (by kernel_rfl) (equal_bk (attrs T)))⟩
theorem m_less (T : TopOk K) {t t' : List Nat} (hl : t.length ≤ 1000) (hl' : t'.length ≤ 1000) (h : ∀ k, k < lessN t t' → k + 2 ≤ 1000 ∧ indOk t (k + 2) = true ∧ indOk t' (k + 2) = true) : MOk w K (l + 2) (.ws (S t)) "less" [.ws (S t')] (.d (.bool (lessP t t'))) :=
  ⟨meth_ws T.ws T.m101.1 T.m101.2 (by kernel_rfl) (fn_top T.f101 (ρ := [("self", .ws (S t)), ("other", .ws (S t'))]) rfl rfl (by kernel_rfl) (less_bk T.gl.max T.gl.range (attrs T) hl hl' (m_longest T hl) (m_longest T hl')
    (fun k hk => m_indent T hl (by omega) (h k hk).1 (h k hk).2.1) (fun k hk => m_indent T hl' (by omega) (h k hk).1 (h k hk).2.2)))⟩
theorem c_told (T : TopOk K) {parts : Parts} {texts cols : List (List Nat)} {j : Nat} (h1 : texts.length ≤ 500) (h2 : parts.length ≤ texts.length) (h3 : cols.length = texts.length) (h4 : ∀ i, (cols.getD i []).length ≤ 500) (h5 : ∀ i, i < texts.length → (cols.getD i []).length = (cols.getD j []).length) (hj : j < texts.length)
    (h7 : ∀ i, (texts.getD i []).all okC = true ∧ (texts.getD i []).length ≤ 1000) (h8 : ∀ x ∈ parts, (x.1.length ≤ 1000 ∧ x.2.length ≤ 1000) ∧ x.1.all okC = true ∧ x.2.all okC = true) :
    CallOk w K (l + 2) (.fn (.ref 158)) [.d (.list (parts.map pairD)), .d (.list (texts.map tx)), .d (.list (cols.map natsD)), natV j] (.d (.list (rowsD (standB parts texts j) (smallB cols j) (alikeB cols j) texts.length))) := by
  refine fn_top T.f158 (ρ := [("parts", .d (.list (parts.map pairD))), ("texts", .d (.list (texts.map tx))), ("columns", .d (.list (cols.map natsD))), ("j", natV j)]) rfl rfl (by kernel_rfl)
    (told_bk T.gl.len T.gl.range T.gl.fits T.gl.parted h1 h2 h3 h4 h5 hj (fun i => (h7 i).1) (fun i hi => ?_) fun bs hb => c_parted T (by omega))
  have hm : parts.getD i ([], []) ∈ parts := by
    rw [List.getD_eq_getElem?_getD, List.getElem?_eq_getElem hi]
    exact List.getElem_mem _
  obtain ⟨a, b, c⟩ := h8 _ hm
  exact c_fits T a.1 a.2 (h7 j).2 b c (h7 j).1

/-! ## asked -/
theorem ask_item (T : TopOk K) {e : Expr} {p1 p2 lp cp : Pos} {params : Arguments} {lbody : Expr} {scope : Scope} (he : e = .Call (.Name "_split_list" p1) [.Name "places" p2, .Lambda params lbody scope lp] [] cp) (hdef : ∀ env, defaultsOf params env = ([], []))
    (hco : scope.isCoroutine = false) (hgen : scope.isGenerator = false) (hk : scope.kind = .function) (hnd : nodupN scope.names = true) (hfo : freeOk scope.names (fnSc (topSt 18)) = true)
    (hbind : ∀ fd : FuncData, fd.params = params → fd.defaults = .none → fd.kwdefaults = .none → ∀ v, bindArgs fd ⟨[v], []⟩ = pure [(("i" : Str), v)]) (hx : isOwnB scope.names "i" = true)
    {pats texts spaces : List (List Nat)} {j n : Nat} {pb : Nat → Bool} (hn : n ≤ 500) (hev : ∀ K', Sub K K' → ∀ k, k < n → VE w K' l scope.names (("i", natV k) :: innerRho scope.names (askFrz pats texts spaces j n)) lbody (.d (.bool (pb k)))) :
    ItemOk w K (l + 2) (fnSc (topSt 18)) (askFrz pats texts spaces j n) e (partedD (splitBy n pb)) := by
  subst he
  refine ⟨fun _ _ => rfl, fun A s P Q E env ro g fr ok er hcode hq out => ?_⟩
  obtain ⟨fd, F, hs, hb⟩ := T.f42.ex
  refine lam_item (l := l) T.lam ro g fr ok er hcode hq F (x1 := "s") (x2 := "predicate") hb rfl (by rw [hs]; exact ⟨by kernel_rfl, by kernel_rfl⟩) (name_split T.gl.split).h (ds := (List.range n).map natD) name_places.h hdef hco hgen hk hnd hfo hbind hx
    (pr := fun u b => ∃ k, k < n ∧ u = natV k ∧ b = pb k) (fun K' sub u b hu => ?_) (ow := [("yes", true), ("no", true)]) (fun f K' sub hc => ?_) out
  · obtain ⟨k, hk, rfl, rfl⟩ := hu
    exact ⟨rfl, (hev K' sub k hk).h⟩
  · rw [hs]
    exact (split_bk hn fun k hk => hc _ _ ⟨k, hk, rfl, rfl⟩).h
noncomputable def ellP (w g : List Nat) : Bool := if hasP [46, 46, 46] w = true then fitsP ((splitP w [46, 46, 46]).getD 0 []) ((splitP w [46, 46, 46]).getD 1 []) g else w == g
noncomputable def ellGood (w g : List Nat) : Prop := (w.all okC = true ∧ g.all okC = true ∧ w.length ≤ 1000 ∧ g.length ≤ 1000) ∧ (hasP [46, 46, 46] w = true → ∃ f b, splitP w [46, 46, 46] = [f, b] ∧ f.length ≤ 1000 ∧ b.length ≤ 1000)
theorem c_ell (T : TopOk K) {wt g : List Nat} (h : ellGood wt g) : CallOk w K (l + 1) (.fn (.ref 49)) [.d (tx wt), .d (tx g)] (.d (.bool (ellP wt g))) := by
  obtain ⟨⟨h1, h2, h3, h4⟩, h5⟩ := h
  unfold ellP
  by_cases hd : hasP [46, 46, 46] wt = true
  · obtain ⟨f, b, e, l1, l2⟩ := h5 hd
    rw [if_pos hd, e]
    exact c_ellB T hd e h3 l1 l2 h4
  · rw [if_neg hd]
    exact c_ellA T (by simpa using hd) h1 h2
theorem c_asked (T : TopOk K) {pats texts spaces : List (List Nat)} {j : Nat} (h1 : pats.length = texts.length) (h2 : spaces.length = texts.length) (h3 : texts.length ≤ 500) (h4 : j < texts.length) (h5 : ∀ i, i < texts.length → ellGood (pats.getD i []) (texts.getD j []))
    (h6 : ∀ i, i < texts.length → ((spaces.getD i []).length ≤ 1000 ∧ (spaces.getD j []).length ≤ 1000) ∧ ∀ k, k < lessN (spaces.getD i []) (spaces.getD j []) → k + 2 ≤ 1000 ∧ indOk (spaces.getD i []) (k + 2) = true ∧ indOk (spaces.getD j []) (k + 2) = true) :
    CallOk w K 5 (.fn (.ref 165)) [.d (.list (pats.map tx)), .d (.list (texts.map tx)), .wsl (spaces.map S), natV j]
      (.d (.list (rowsD (fun i => ellP (pats.getD i []) (texts.getD j [])) (fun i => lessP (spaces.getD i []) (spaces.getD j [])) (fun i => eqnP (spaces.getD i []) (spaces.getD j [])) texts.length))) := by
  obtain ⟨fd, F, hs, hb, hcode, hq⟩ := T.f165
  have hr : rowsD (fun i => ellP (pats.getD i []) (texts.getD j [])) (fun i => lessP (spaces.getD i []) (spaces.getD j [])) (fun i => eqnP (spaces.getD i []) (spaces.getD j [])) texts.length = [partedD (splitBy texts.length fun i => ellP (pats.getD i []) (texts.getD j [])), partedD (splitBy texts.length fun i => lessP (spaces.getD i []) (spaces.getD j [])), partedD (splitBy texts.length fun i => eqnP (spaces.getD i []) (spaces.getD j []))] := by
    unfold rowsD
    rw [parted_split, parted_split, parted_split]
  rw [hr]
  refine asked_call (l := 4) (st := askedSt) (c1 := askedItem 0) (c2 := askedItem 1) (c3 := askedItem 2) F hcode hq (ρ := askRho pats texts spaces j) hb rfl (by rw [hs]; kernel_rfl) (by rw [hs]; exact (places_vs T.gl.len T.gl.range T.gl.list h3).h) ?_ ?_ ?_
  · rw [hs]
    refine ask_item (l := 2) T rfl (fun _ => rfl) rfl rfl rfl (by kernel_rfl) (by kernel_rfl) ?_ (by kernel_rfl) h3 (fun K' sub k hk => lam1_ve (T.gl.ell.sub sub) (by omega) h3 (by omega) h4 ((c_ell (l := 1) T (h5 k hk)).sub sub))
    intro fd e1 e2 e3 v
    cases fd
    dsimp only at e1 e2 e3
    subst e1 e2 e3
    rfl
  · rw [hs]
    refine ask_item (l := 2) T rfl (fun _ => rfl) rfl rfl rfl (by kernel_rfl) (by kernel_rfl) ?_ (by kernel_rfl) h3 (fun K' sub k hk => lam2_ve (by omega) (by omega) (by omega) ⟨(m_less (l := 0) T (h6 k hk).1.1 (h6 k hk).1.2 (h6 k hk).2).h.sub sub⟩)
    intro fd e1 e2 e3 v
    cases fd
    dsimp only at e1 e2 e3
    subst e1 e2 e3
    rfl
  · rw [hs]
    refine ask_item (l := 2) T rfl (fun _ => rfl) rfl rfl rfl (by kernel_rfl) (by kernel_rfl) ?_ (by kernel_rfl) h3 (fun K' sub k hk => lam3_ve (by omega) (by omega) (by omega) ⟨(m_equal (l := 1) T).h.sub sub⟩)
    intro fd e1 e2 e3 v
    cases fd
    dsimp only at e1 e2 e3
    subst e1 e2 e3
    rfl
theorem law_ok (T : TopOk K) {xs : List Int} {lead other : List Nat} {parts : Parts} {r6 r7 : List Nat → List Nat} {top : Nat} {p q r : Nat → Nat → Bool} (H : LawP xs lead other parts r6 r7 top) (C : LawC w K 5 xs lead other parts r6 r7 top p q r) : CallOk w K 6 (.fn (.ref 170)) [.d (.list (xs.map .int))] (.d (.bool true)) :=
  fn_top T.f170 (ρ := [("script", .d (.list (xs.map .int)))]) rfl rfl (by kernel_rfl) (law_bk T.gl (attrs T) H C)
end
end Mine
namespace Mine
open PySem PySem.Spec PySem.Calls PySem.W PyProof.Rows
open PySem.Builtin PySem.Builtin.Str

/-! ## the top's facts, as looks at a fragment -/
noncomputable def fdOf (K : Frag) (a : Addr) : Option FuncData := (K.lookup a).bind fun o => match o.data with
  | .func fd => some fd
  | _ => none
noncomputable def codeOf (K : Frag) (fd : FuncData) : Option Str := match fd.code with
  | .ref c => (K.lookup c).bind fun oc => match oc.data with
    | .fields vs => (match (vs[1]? : Option Value) with | some (.str q _) => some q | _ => none)
    | _ => none
  | _ => none
noncomputable def fnPar : Stmt → Arguments
  | .FunctionDef _ a _ _ _ _ _ _ _ _ => a
  | _ => { posonlyargs := [], args := [], vararg := none, kwonlyargs := [], kw_defaults := [], kwarg := none, defaults := [] }
abbrev FnL := Bool × Bool × ScopeKind × Sc × FuncBody × Addr × Addr × Arguments × Value × Value × Bool
noncomputable def fnLook (K : Frag) (a : Addr) : Option FnL := (fdOf K a).map fun fd => (fd.scope.isCoroutine, fd.scope.isGenerator, fd.scope.kind, fd.scope.names, fd.body, fd.globals, fd.builtins, fd.params, fd.defaults, fd.kwdefaults, codeOf K fd == some fd.qualname)
noncomputable def fnGood (st : Stmt) : Option FnL := some (false, false, .function, fnSc st, .stmts (fnBody st), GLB, builtinsNs, fnPar st, .none, .none, true)
theorem fn_of {K : Frag} {a : Addr} {st : Stmt} (h : fnLook K a = fnGood st) (hf : ((fnSc st).all fun p => p.2 != .free) = true) (hl : ∀ h, Good K h → h.NoLimit) :
    ∃ fd, fdOf K a = some fd ∧ FnAt K a fd (fnBody st) ∧ fd.scope.names = fnSc st ∧ fd.params = fnPar st ∧ fd.defaults = .none ∧ fd.kwdefaults = .none := by
  obtain ⟨fd, h1, h2⟩ := Option.map_eq_some_iff.mp h
  simp only [Prod.mk.injEq] at h2
  obtain ⟨e1, e2, e3, e4, e5, e6, e7, e8, e9, e10, e11⟩ := h2
  refine ⟨fd, h1, ⟨?_, e1, e2, e3, e5, e6, e7, ?_, fun x hx => ?_, hl⟩, e4, e8, e9, e10⟩
  · obtain ⟨o, q1, q2⟩ := Option.bind_eq_some_iff.mp h1
    split at q2
    · rename_i fd' hd
      cases q2
      exact ⟨o, q1, hd⟩
    · cases q2
  · have h := beq_iff_eq.mp e11
    unfold codeOf at h
    split at h
    · rename_i c hc
      obtain ⟨oc, q1, q2⟩ := Option.bind_eq_some_iff.mp h
      split at q2
      · rename_i vs hd
        split at q2
        · rename_i q t hq
          cases q2
          exact ⟨c, oc, vs, t, hc, q1, hd, hq⟩
        · cases q2
      · cases q2
    · cases h
  · rw [e4] at hx
    have := List.all_eq_true.mp hf _ (lookup_mem hx)
    simp at this
theorem ns_none_of {K : Frag} {h : Heap} {N : Addr} {m : Str → Option Value} {n : Str} (X : K.In h) (G : h.Ns N m) (e : nsIn K N n = some none) : m n = none := by
  obtain ⟨o, es, ep, ho, hd, hr, hf⟩ := G
  unfold nsIn at e
  split at e
  · rename_i c d es' n' sl q
    have := X _ _ q
    rw [ho] at this
    cases this
    cases hd
    split at e
    · cases e
    · rename_i he
      rw [← hf]
      unfold nsFind findBy
      rw [← Array.find?_toList, he]
      rfl
  · cases e
theorem ns_some_of {K : Frag} {h : Heap} {N : Addr} {m : Str → Option Value} {n : Str} {v : Value} (X : K.In h) (G : h.Ns N m) (e : nsIn K N n = some (some v)) : m n = some v := by
  obtain ⟨o, es, ep, ho, hd, _, hf⟩ := G
  unfold nsIn at e
  split at e
  · rename_i c d es' n' sl q
    have := X _ _ q
    rw [ho] at this
    cases this
    cases hd
    split at e
    · rename_i en he
      cases e
      rw [← hf]
      unfold nsFind findBy
      rw [← Array.find?_toList, he]
      rfl
    · split at e <;> cases e
  · cases e
/-! looks -/
noncomputable def fnB (K : Frag) (x : Str) (a : Addr) : Bool := nsIn K GLB x == some (some (.ref a))
noncomputable def biB (K : Frag) (x : Str) (v : Value) : Bool := nsIn K GLB x == some none && nsIn K builtinsNs x == some (some v)
noncomputable def methB (K : Frag) (x : Str) (a : Addr) : Bool := findIn K (.ref CLS) x == some (some (.ref a)) && typeIn K (.ref a) == some (.type "function")
noncomputable def fldB (K : Frag) (x : Str) : Bool := findIn K (.ref CLS) x == some none && takerIn K CLS x == some none
noncomputable def clsB (K : Frag) (x y : Str) : Bool := match findCls K (.ref CLS) (.type "type") x with
  | some (.val (.str s _)) => s == y
  | _ => false
noncomputable def topLook (K : Frag) : Bool :=
  ((nsOkIn K GLB && nsOkIn K builtinsNs && nsOkIn K cStatics && codeHdIn K 164 TAB && nsIn K GLB "__builtins__" == some (some (.ref 4)) && nsIn K cStatics "sys.recursionlimit" == some none) &&
   (match K.lookup 4 with | some ⟨.type T, some d, .plain, _⟩ => T == "module" && d == builtinsNs | _ => false) && (match nsIn K GLB "ELLIPSIS_MARKER" with | some (some (.str s _)) => s == "..." | _ => false)) &&
  ((biB K "len" (.builtin "len") && biB K "max" (.builtin "max") && biB K "range" (.type "range") && biB K "list" (.type "list") && biB K "tuple" (.type "tuple")) &&
   (fnB K "replace" 28 && fnB K "cram" 35 && fnB K "_split_list" 42 && fnB K "_ellipsis_match" 49 && fnB K "Whitespace" 111 && fnB K "_law_leads" 122 && fnB K "_law_parts" 129 && fnB K "_law_columns" 136 && fnB K "_law_letters" 141 && fnB K "_law_fits" 148 && fnB K "_law_parted" 153 && fnB K "_law_told" 158 && fnB K "_law_asked" 165)) &&
  ((methB K "longest_run_of_spaces" 73 && methB K "indent_level" 80 && methB K "equal" 87 && methB K "less" 101 && methB K "__init__" 66) &&
   (fldB K "raw" && fldB K "n" && fldB K "nt" && fldB K "norm" && fldB K "is_simple") && (clsB K "S" " " && clsB K "T" "\t" && readsIn K CLS (.type "type") && makesIn K CLS && plainOver K CLS) &&
   (findIn K (.ref CLS) "__getattribute__" == some (some (.builtin "object.__getattribute__")) && findIn K (.ref CLS) "__getattr__" == some none && findIn K (.ref CLS) "__setattr__" == some (some (.builtin "object.__setattr__")) && (match clsIn K CLS with | some cd => cd.hasDict | none => false))) &&
  (match fdOf K 165 with | some fd => fd.code == .ref 164 && fd.qualname == "_law_asked" | none => false)
noncomputable def FNS : List (Addr × Stmt) := [(28, topSt 2), (35, topSt 3), (42, topSt 4), (49, topSt 7), (122, topSt 11), (129, topSt 12), (136, topSt 13), (141, topSt 14), (148, topSt 15), (153, topSt 16), (158, topSt 17), (165, topSt 18), (170, topSt 19), (66, clsSt 1), (73, clsSt 2), (80, clsSt 3), (87, clsSt 4), (101, clsSt 6)]
theorem plain_of {fd : FuncData} {P : Arguments} {names : List Str} (h1 : fd.params = P) (h2 : fd.defaults = .none) (h3 : fd.kwdefaults = .none) (h : ∀ n q b s g c d m an cd ct bu, PlainBind ⟨n, q, P, b, s, g, c, .none, .none, d, m, an, cd, ct, bu⟩ names) : PlainBind fd names := by
  obtain ⟨n, q, p, b, s, g, c, df, kd, d, m, an, cd, ct, bu⟩ := fd
  subst h1 h2 h3
  exact h n q b s g c d m an cd ct bu
theorem frozen_self {h : Heap} (hn : h.get? TAB = some (tabObj #[])) : Good (frozen h) h :=
  frozen_good ⟨#[], ⟨hn, trivial⟩, fun pos c e => nomatch e⟩

theorem gl_of {K : Frag} (n3 : nsOkIn K GLB = true) (n0 : nsOkIn K builtinsNs = true) : (∀ x a, fnB K x a = true → GOk K x (.fn (.ref a))) ∧ (∀ x v, biB K x v = true → GOk K x (.fn v)) := by
  refine ⟨fun x a h => ⟨fun hh g => ?_⟩, fun x v h => ⟨fun hh g => ?_⟩⟩
  · have N3 : hh.Ns GLB (hh.nsMap GLB) := .of_isNs (isNs_of_in g.inn n3)
    have N0 : hh.Ns builtinsNs (hh.nsMap builtinsNs) := .of_isNs (isNs_of_in g.inn n0)
    exact ⟨.ref a, ⟨_, _, N3, N0, .inl (ns_some_of g.inn N3 (beq_iff_eq.mp h))⟩, fun P => rfl⟩
  · have N3 : hh.Ns GLB (hh.nsMap GLB) := .of_isNs (isNs_of_in g.inn n3)
    have N0 : hh.Ns builtinsNs (hh.nsMap builtinsNs) := .of_isNs (isNs_of_in g.inn n0)
    obtain ⟨q1, q2⟩ := Bool.and_eq_true_iff.mp h
    exact ⟨v, ⟨_, _, N3, N0, .inr ⟨ns_none_of g.inn N3 (beq_iff_eq.mp q1), ns_some_of g.inn N0 (beq_iff_eq.mp q2)⟩⟩, fun P => rfl⟩
theorem cls_of {K : Frag} {x y : Str} (h : clsB K x y = true) : ∃ t, findCls K (.ref CLS) (.type "type") x = some (.val (.str y t)) := by
  unfold clsB at h
  split at h
  · rename_i s t e
    exact ⟨t, by rw [e, beq_iff_eq.mp h]⟩
  · cases h
theorem lam_of {K : Frag} (hT : K.lookup TAB = none) (hc : codeHdIn K 164 TAB = true) (n3 : nsOkIn K GLB = true) (hb : nsIn K GLB "__builtins__" = some (some (.ref 4))) (h4 : ∃ o, K.lookup 4 = some o ∧ o.cls = .type "module" ∧ o.dict = some builtinsNs ∧ o.data = .plain)
    (n2 : nsOkIn K cStatics = true) (hl : nsIn K cStatics "sys.recursionlimit" = some none) : LamTop K := by
  refine ⟨hT, hc, fun h X => ?_, fun h g => ?_⟩
  · have N3 : h.Ns GLB (h.nsMap GLB) := .of_isNs (isNs_of_in X n3)
    obtain ⟨o, e1, e2, e3, e4⟩ := h4
    exact ⟨_, N3, 4, o, ns_some_of X N3 hb, by decide, by decide, by decide, X _ _ e1, e2, e3, e4⟩
  · have N2 : h.Ns cStatics (h.nsMap cStatics) := .of_isNs (isNs_of_in g.inn n2)
    exact ⟨_, N2, ns_none_of g.inn N2 hl⟩
theorem fns_free : (FNS.all fun p => (fnSc p.2).all fun q => q.2 != .free) = true := by kernel_rfl
theorem top_of {K : Frag} (hT : K.lookup TAB = none) (hb : topLook K = true) (hf : ∀ p ∈ FNS, fnLook K p.1 = fnGood p.2) : TopOk K := by
  unfold topLook at hb
  simp only [Bool.and_eq_true] at hb
  obtain ⟨⟨⟨⟨⟨⟨⟨⟨⟨⟨n3, n0⟩, n2⟩, hcode⟩, hbi⟩, hlim⟩, h4⟩, hmark⟩, ⟨⟨⟨⟨⟨b1, b2⟩, b3⟩, b4⟩, b5⟩, ⟨⟨⟨⟨⟨⟨⟨⟨⟨⟨⟨⟨f1, f2⟩, f3⟩, f4⟩, f5⟩, f6⟩, f7⟩, f8⟩, f9⟩, f10⟩, f11⟩, f12⟩, f13⟩⟩⟩,
    ⟨⟨⟨⟨⟨⟨⟨m1, m2⟩, m3⟩, m4⟩, m5⟩, ⟨⟨⟨⟨d1, d2⟩, d3⟩, d4⟩, d5⟩⟩, ⟨⟨⟨⟨s1, s2⟩, s3⟩, s4⟩, s5⟩⟩, ⟨⟨⟨c1, c2⟩, c3⟩, c4⟩⟩⟩, h165⟩ := hb
  have L : LamTop K := by
    refine lam_of hT hcode n3 (beq_iff_eq.mp hbi) ?_ n2 (beq_iff_eq.mp hlim)
    split at h4
    · rename_i T d sl e
      obtain ⟨q1, q2⟩ := Bool.and_eq_true_iff.mp h4
      exact ⟨_, e, by rw [beq_iff_eq.mp q1], by rw [beq_iff_eq.mp q2], rfl⟩
    · cases h4
  obtain ⟨GF, GB⟩ := gl_of n3 n0
  have fn := fun (a : Addr) (st : Stmt) (m : (a, st) ∈ FNS) => fn_of (hf (a, st) m) (List.all_eq_true.mp fns_free (a, st) m) L.limit
  have top := fun (a : Addr) (st : Stmt) (names : List Str) (m : (a, st) ∈ FNS) (h : ∀ n q b s g c d m an cd ct bu, PlainBind ⟨n, q, fnPar st, b, s, g, c, .none, .none, d, m, an, cd, ct, bu⟩ names) =>
    (let ⟨fd, _, F, hs, p1, p2, p3⟩ := fn a st m; FnTop.mk ⟨fd, F, hs, plain_of p1 p2 p3 h⟩ : FnTop K a st names)
  have meth : ∀ {x : Str} {a : Addr}, methB K x a = true → findIn K (.ref CLS) x = some (some (.ref a)) ∧ typeIn K (.ref a) = some (.type "function") := fun h => let ⟨p, q⟩ := Bool.and_eq_true_iff.mp h; ⟨beq_iff_eq.mp p, beq_iff_eq.mp q⟩
  have fld : ∀ {x : Str}, fldB K x = true → findIn K (.ref CLS) x = some none ∧ takerIn K CLS x = some none := fun h => let ⟨p, q⟩ := Bool.and_eq_true_iff.mp h; ⟨beq_iff_eq.mp p, beq_iff_eq.mp q⟩
  have cls : ∃ cd, clsIn K CLS = some cd ∧ cd.hasDict = true := by
    split at c4
    · rename_i cd e; exact ⟨cd, e, c4⟩
    · cases c4
  have each : ∀ x ∈ ["raw", "n", "nt", "norm", "is_simple"], findIn K (.ref CLS) (Str.ofString x) = some none ∧ takerIn K CLS (Str.ofString x) = some none := by
    intro x m
    rcases List.mem_cons.mp m with rfl | m
    · exact fld d1
    rcases List.mem_cons.mp m with rfl | m
    · exact fld d2
    rcases List.mem_cons.mp m with rfl | m
    · exact fld d3
    rcases List.mem_cons.mp m with rfl | m
    · exact fld d4
    · rw [List.mem_singleton.mp m]; exact fld d5
  have W : WsTop K := ⟨beq_iff_eq.mp c1, beq_iff_eq.mp c2, cls, fun x m => (each x m).1⟩
  have mem : ∀ {p : Addr × Stmt} {k : Nat}, FNS[k]? = some p → p ∈ FNS := fun h => List.mem_of_getElem? h
  have bind1 : ∀ {x : Str} {st : Stmt}, (∀ n q b s g c d m an cd ct bu v, bindArgs ⟨n, q, fnPar st, b, s, g, c, .none, .none, d, m, an, cd, ct, bu⟩ ⟨[v], []⟩ = pure [(x, v)]) → ∀ n q b s g c d m an cd ct bu, PlainBind ⟨n, q, fnPar st, b, s, g, c, .none, .none, d, m, an, cd, ct, bu⟩ [x] := by
    intro x st h n q b s g c d m an cd ct bu vals e
    match vals, e with
    | [v], _ => exact h ..
  have bind2 : ∀ {x y : Str} {st : Stmt}, (∀ n q b s g c d m an cd ct bu v u, bindArgs ⟨n, q, fnPar st, b, s, g, c, .none, .none, d, m, an, cd, ct, bu⟩ ⟨[v, u], []⟩ = pure [(x, v), (y, u)]) → ∀ n q b s g c d m an cd ct bu, PlainBind ⟨n, q, fnPar st, b, s, g, c, .none, .none, d, m, an, cd, ct, bu⟩ [x, y] := by
    intro x y st h n q b s g c d m an cd ct bu vals e
    match vals, e with
    | [v, u], _ => exact h ..
  have bind3 : ∀ {x y z : Str} {st : Stmt}, (∀ n q b s g c d m an cd ct bu v u t, bindArgs ⟨n, q, fnPar st, b, s, g, c, .none, .none, d, m, an, cd, ct, bu⟩ ⟨[v, u, t], []⟩ = pure [(x, v), (y, u), (z, t)]) → ∀ n q b s g c d m an cd ct bu, PlainBind ⟨n, q, fnPar st, b, s, g, c, .none, .none, d, m, an, cd, ct, bu⟩ [x, y, z] := by
    intro x y z st h n q b s g c d m an cd ct bu vals e
    match vals, e with
    | [v, u, t], _ => exact h ..
  have bind4 : ∀ {x y z i : Str} {st : Stmt}, (∀ n q b s g c d m an cd ct bu v u t r, bindArgs ⟨n, q, fnPar st, b, s, g, c, .none, .none, d, m, an, cd, ct, bu⟩ ⟨[v, u, t, r], []⟩ = pure [(x, v), (y, u), (z, t), (i, r)]) → ∀ n q b s g c d m an cd ct bu, PlainBind ⟨n, q, fnPar st, b, s, g, c, .none, .none, d, m, an, cd, ct, bu⟩ [x, y, z, i] := by
    intro x y z i st h n q b s g c d m an cd ct bu vals e
    match vals, e with
    | [v, u, t, r], _ => exact h ..
  refine {
    gl := ⟨GB _ _ b1, GB _ _ b2, GB _ _ b3, GB _ _ b4, GB _ _ b5, ?_, GF _ _ f1, GF _ _ f2, GF _ _ f3, GF _ _ f4, GF _ _ f5, GF _ _ f6, GF _ _ f7, GF _ _ f8, GF _ _ f9, GF _ _ f10, GF _ _ f11, GF _ _ f12, GF _ _ f13⟩
    f28 := ?_
    f35 := top _ _ _ (mem (k := 1) rfl) (bind2 fun _ _ _ _ _ _ _ _ _ _ _ _ _ _ => by kernel_rfl)
    f42 := top _ _ _ (mem (k := 2) rfl) (bind2 fun _ _ _ _ _ _ _ _ _ _ _ _ _ _ => by kernel_rfl)
    f49 := top _ _ _ (mem (k := 3) rfl) (bind2 fun _ _ _ _ _ _ _ _ _ _ _ _ _ _ => by kernel_rfl)
    f122 := top _ _ _ (mem (k := 4) rfl) (bind1 fun _ _ _ _ _ _ _ _ _ _ _ _ _ => by kernel_rfl)
    f129 := top _ _ _ (mem (k := 5) rfl) (bind1 fun _ _ _ _ _ _ _ _ _ _ _ _ _ => by kernel_rfl)
    f136 := top _ _ _ (mem (k := 6) rfl) (bind2 fun _ _ _ _ _ _ _ _ _ _ _ _ _ _ => by kernel_rfl)
    f141 := top _ _ _ (mem (k := 7) rfl) (bind1 fun _ _ _ _ _ _ _ _ _ _ _ _ _ => by kernel_rfl)
    f148 := top _ _ _ (mem (k := 8) rfl) (bind3 fun _ _ _ _ _ _ _ _ _ _ _ _ _ _ _ => by kernel_rfl)
    f153 := top _ _ _ (mem (k := 9) rfl) (bind1 fun _ _ _ _ _ _ _ _ _ _ _ _ _ => by kernel_rfl)
    f158 := top _ _ _ (mem (k := 10) rfl) (bind4 fun _ _ _ _ _ _ _ _ _ _ _ _ _ _ _ _ => by kernel_rfl)
    f165 := ?_
    f170 := top _ _ _ (mem (k := 12) rfl) (bind1 fun _ _ _ _ _ _ _ _ _ _ _ _ _ => by kernel_rfl)
    f66 := top _ _ _ (mem (k := 13) rfl) (bind2 fun _ _ _ _ _ _ _ _ _ _ _ _ _ _ => by kernel_rfl)
    f73 := top _ _ _ (mem (k := 14) rfl) (bind1 fun _ _ _ _ _ _ _ _ _ _ _ _ _ => by kernel_rfl)
    f80 := top _ _ _ (mem (k := 15) rfl) (bind2 fun _ _ _ _ _ _ _ _ _ _ _ _ _ _ => by kernel_rfl)
    f87 := top _ _ _ (mem (k := 16) rfl) (bind2 fun _ _ _ _ _ _ _ _ _ _ _ _ _ _ => by kernel_rfl)
    f101 := top _ _ _ (mem (k := 17) rfl) (bind2 fun _ _ _ _ _ _ _ _ _ _ _ _ _ _ => by kernel_rfl)
    m73 := meth m1
    m80 := meth m2
    m87 := meth m3
    m101 := meth m4
    ws := W
    made := ⟨s4, (meth m5).1, (meth m5).2, fun x m => ⟨beq_iff_eq.mp c3, s5, (each x m).2, cls⟩, W, hT⟩
    reads := s3
    clsS := cls_of s1
    clsT := cls_of s2
    lam := L }
  · refine ⟨fun hh g => ?_⟩
    have N3 : hh.Ns GLB (hh.nsMap GLB) := .of_isNs (isNs_of_in g.inn n3)
    have N0 : hh.Ns builtinsNs (hh.nsMap builtinsNs) := .of_isNs (isNs_of_in g.inn n0)
    split at hmark
    · rename_i s t e
      rw [beq_iff_eq.mp hmark] at e
      exact ⟨_, ⟨_, _, N3, N0, .inl (ns_some_of g.inn N3 e)⟩, fun P => Rd.str _ _⟩
    · cases hmark
  · obtain ⟨fd, _, F, hs, p1, p2, p3⟩ := fn 28 (topSt 2) (mem (k := 0) rfl)
    refine ⟨fd, F, hs, ?_⟩
    clear F hs
    obtain ⟨n, q, p, b, s, g, c, df, kd, d, m, an, cd, ct, bu⟩ := fd
    dsimp only at p1 p2 p3
    subst p1 p2 p3
    rintro t rest (h | h)
    · match rest, h with
      | [_, _], _ => kernel_rfl
    · match rest, h with
      | [_, _, _, _, _, _, _, _], _ => kernel_rfl
  · obtain ⟨fd, h0, F, hs, p1, p2, p3⟩ := fn 165 (topSt 18) (mem (k := 11) rfl)
    rw [h0] at h165
    obtain ⟨q1, q2⟩ := Bool.and_eq_true_iff.mp h165
    exact ⟨fd, F, hs, plain_of p1 p2 p3 (bind4 fun _ _ _ _ _ _ _ _ _ _ _ _ _ _ _ _ => by kernel_rfl), beq_iff_eq.mp q1, by rw [beq_iff_eq.mp q2]; rfl⟩
end Mine
namespace Mine
open PySem PySem.Spec PySem.Calls
open PySem.Builtin PySem.Builtin.Str

/-! ## the texts that there are -/
structure TRow where
  t : List Nat
  cols : List Nat
  cnt : List Nat
  b : Nat
  n : Nat
  nt : Nat
  mx : Nat
noncomputable def LEADS : List (List Nat) := [[32, 32, 9, 32, 32, 9], [32, 32, 32, 9, 32, 32, 9], [32, 32, 9, 9, 32, 32, 9], [32, 32, 32, 32, 9, 32, 32, 9], [32, 32, 32, 9, 9, 32, 32, 9], [32, 32, 9, 32, 9, 32, 32, 9], [32, 32, 9, 9, 9, 32, 32, 9], [32, 32, 32, 32, 32, 9, 32, 32, 9], [32, 32, 32, 32, 9, 9, 32, 32, 9], [32, 32, 32, 9, 32, 9, 32, 32, 9], [32, 32, 32, 9, 9, 9, 32, 32, 9], [32, 32, 9, 32, 32, 9, 32, 32, 9], [32, 32, 9, 32, 9, 9, 32, 32, 9], [32, 32, 9, 9, 32, 9, 32, 32, 9], [32, 32, 9, 9, 9, 9, 32, 32, 9]]
noncomputable def OTHERS : List (List Nat) := [[9, 32], [9, 32, 32], [9, 32, 9], [9, 32, 32, 32], [9, 32, 32, 9], [9, 32, 32, 32, 32], [9, 32, 32, 32, 9], [9, 32, 9, 32], [9, 32, 9, 9], [9, 32, 9, 32, 32], [9, 32, 9, 32, 9], [9, 32, 32, 32, 32, 32], [9, 32, 32, 32, 32, 9], [9, 32, 32, 9, 32], [9, 32, 32, 9, 9], [9, 32, 32, 9, 32, 32], [9, 32, 32, 9, 32, 9], [9, 32, 32, 32, 32, 32, 32], [9, 32, 32, 32, 32, 32, 9], [9, 32, 32, 32, 9, 32], [9, 32, 32, 32, 9, 9], [9, 32, 32, 32, 9, 32, 32], [9, 32, 32, 32, 9, 32, 9], [9, 32, 9, 32, 32, 32], [9, 32, 9, 32, 32, 9], [9, 32, 9, 9, 32], [9, 32, 9, 9, 9], [9, 32, 9, 9, 32, 32], [9, 32, 9, 9, 32, 9], [9, 32, 9, 32, 32, 32, 32], [9, 32, 9, 32, 32, 32, 9], [9, 32, 9, 32, 9, 32], [9, 32, 9, 32, 9, 9], [9, 32, 9, 32, 9, 32, 32], [9, 32, 9, 32, 9, 32, 9], [9, 32, 32, 32, 32, 32, 32, 32], [9, 32, 32, 32, 32, 32, 32, 9], [9, 32, 32, 32, 32, 9, 32], [9, 32, 32, 32, 32, 9, 9], [9, 32, 32, 32, 32, 9, 32, 32], [9, 32, 32, 32, 32, 9, 32, 9], [9, 32, 32, 9, 32, 32, 32], [9, 32, 32, 9, 32, 32, 9], [9, 32, 32, 9, 9, 32], [9, 32, 32, 9, 9, 9], [9, 32, 32, 9, 9, 32, 32], [9, 32, 32, 9, 9, 32, 9], [9, 32, 32, 9, 32, 32, 32, 32], [9, 32, 32, 9, 32, 32, 32, 9], [9, 32, 32, 9, 32, 9, 32], [9, 32, 32, 9, 32, 9, 9], [9, 32, 32, 9, 32, 9, 32, 32], [9, 32, 32, 9, 32, 9, 32, 9]]
noncomputable def ROWS : List TRow := [
  ⟨[], [0, 0, 0, 0, 0, 0, 0, 0, 0], [], 0, 0, 0, 0⟩,
  ⟨[9], [1, 2, 3, 4, 5, 6, 7, 8, 9], [1], 0, 1, 1, 0⟩,
  ⟨[32, 9], [2, 2, 3, 4, 5, 6, 7, 8, 9], [0, 1], 0, 2, 1, 1⟩,
  ⟨[32, 32, 9, 32, 32, 9], [6, 8, 6, 8, 10, 12, 14, 16, 18], [0, 0, 2], 0, 6, 2, 2⟩,
  ⟨[32, 32, 9], [3, 4, 3, 4, 5, 6, 7, 8, 9], [0, 0, 1], 0, 3, 1, 2⟩,
  ⟨[32, 32, 32, 9, 32, 32, 9], [7, 8, 9, 8, 10, 12, 14, 16, 18], [0, 0, 1, 1], 0, 7, 2, 3⟩,
  ⟨[32, 32, 9, 9, 32, 32, 9], [7, 10, 9, 12, 15, 18, 21, 24, 27], [1, 0, 2], 0, 7, 3, 2⟩,
  ⟨[32, 32, 32, 9], [4, 4, 6, 4, 5, 6, 7, 8, 9], [0, 0, 0, 1], 0, 4, 1, 3⟩,
  ⟨[32, 32, 32, 32, 9, 32, 32, 9], [8, 10, 9, 12, 10, 12, 14, 16, 18], [0, 0, 1, 0, 1], 0, 8, 2, 4⟩,
  ⟨[32, 32, 32, 9, 9, 32, 32, 9], [8, 10, 12, 12, 15, 18, 21, 24, 27], [1, 0, 1, 1], 0, 8, 3, 3⟩,
  ⟨[32, 32, 9, 32, 9, 32, 32, 9], [8, 10, 9, 12, 15, 18, 21, 24, 27], [0, 1, 2], 0, 8, 3, 2⟩,
  ⟨[32, 32, 9, 9, 9, 32, 32, 9], [8, 12, 12, 16, 20, 24, 28, 32, 36], [2, 0, 2], 0, 8, 4, 2⟩,
  ⟨[32, 32, 32, 32, 9], [5, 6, 6, 8, 5, 6, 7, 8, 9], [0, 0, 0, 0, 1], 0, 5, 1, 4⟩,
  ⟨[32, 32, 32, 32, 32, 9, 32, 32, 9], [9, 10, 9, 12, 15, 12, 14, 16, 18], [0, 0, 1, 0, 0, 1], 0, 9, 2, 5⟩,
  ⟨[32, 32, 32, 32, 9, 9, 32, 32, 9], [9, 12, 12, 16, 15, 18, 21, 24, 27], [1, 0, 1, 0, 1], 0, 9, 3, 4⟩,
  ⟨[32, 32, 32, 9, 32, 9, 32, 32, 9], [9, 10, 12, 12, 15, 18, 21, 24, 27], [0, 1, 1, 1], 0, 9, 3, 3⟩,
  ⟨[32, 32, 32, 9, 9, 9, 32, 32, 9], [9, 12, 15, 16, 20, 24, 28, 32, 36], [2, 0, 1, 1], 0, 9, 4, 3⟩,
  ⟨[32, 32, 9, 32, 32, 9, 32, 32, 9], [9, 12, 9, 12, 15, 18, 21, 24, 27], [0, 0, 3], 0, 9, 3, 2⟩,
  ⟨[32, 32, 9, 32, 9, 9, 32, 32, 9], [9, 12, 12, 16, 20, 24, 28, 32, 36], [1, 1, 2], 0, 9, 4, 2⟩,
  ⟨[32, 32, 9, 9, 32, 9, 32, 32, 9], [9, 12, 12, 16, 20, 24, 28, 32, 36], [1, 1, 2], 0, 9, 4, 2⟩,
  ⟨[32, 32, 9, 9, 9, 9, 32, 32, 9], [9, 14, 15, 20, 25, 30, 35, 40, 45], [3, 0, 2], 0, 9, 5, 2⟩,
  ⟨[9, 32], [2, 3, 4, 5, 6, 7, 8, 9, 10], [1], 1, 2, 1, 1⟩,
  ⟨[9, 32, 32], [3, 4, 5, 6, 7, 8, 9, 10, 11], [1], 2, 3, 1, 2⟩,
  ⟨[9, 32, 9], [3, 4, 6, 8, 10, 12, 14, 16, 18], [1, 1], 0, 3, 2, 1⟩,
  ⟨[9, 32, 32, 32], [4, 5, 6, 7, 8, 9, 10, 11, 12], [1], 3, 4, 1, 3⟩,
  ⟨[9, 32, 32, 9], [4, 6, 6, 8, 10, 12, 14, 16, 18], [1, 0, 1], 0, 4, 2, 2⟩,
  ⟨[9, 32, 32, 32, 32], [5, 6, 7, 8, 9, 10, 11, 12, 13], [1], 4, 5, 1, 4⟩,
  ⟨[9, 32, 32, 32, 9], [5, 6, 9, 8, 10, 12, 14, 16, 18], [1, 0, 0, 1], 0, 5, 2, 3⟩,
  ⟨[9, 32, 9, 32], [4, 5, 7, 9, 11, 13, 15, 17, 19], [1, 1], 1, 4, 2, 1⟩,
  ⟨[9, 32, 9, 9], [4, 6, 9, 12, 15, 18, 21, 24, 27], [2, 1], 0, 4, 3, 1⟩,
  ⟨[9, 32, 9, 32, 32], [5, 6, 8, 10, 12, 14, 16, 18, 20], [1, 1], 2, 5, 2, 2⟩,
  ⟨[9, 32, 9, 32, 9], [5, 6, 9, 12, 15, 18, 21, 24, 27], [1, 2], 0, 5, 3, 1⟩,
  ⟨[9, 32, 32, 32, 32, 32], [6, 7, 8, 9, 10, 11, 12, 13, 14], [1], 5, 6, 1, 5⟩,
  ⟨[9, 32, 32, 32, 32, 9], [6, 8, 9, 12, 10, 12, 14, 16, 18], [1, 0, 0, 0, 1], 0, 6, 2, 4⟩,
  ⟨[9, 32, 32, 9, 32], [5, 7, 7, 9, 11, 13, 15, 17, 19], [1, 0, 1], 1, 5, 2, 2⟩,
  ⟨[9, 32, 32, 9, 9], [5, 8, 9, 12, 15, 18, 21, 24, 27], [2, 0, 1], 0, 5, 3, 2⟩,
  ⟨[9, 32, 32, 9, 32, 32], [6, 8, 8, 10, 12, 14, 16, 18, 20], [1, 0, 1], 2, 6, 2, 2⟩,
  ⟨[9, 32, 32, 9, 32, 9], [6, 8, 9, 12, 15, 18, 21, 24, 27], [1, 1, 1], 0, 6, 3, 2⟩,
  ⟨[9, 32, 32, 32, 32, 32, 32], [7, 8, 9, 10, 11, 12, 13, 14, 15], [1], 6, 7, 1, 6⟩,
  ⟨[9, 32, 32, 32, 32, 32, 9], [7, 8, 9, 12, 15, 12, 14, 16, 18], [1, 0, 0, 0, 0, 1], 0, 7, 2, 5⟩,
  ⟨[9, 32, 32, 32, 9, 32], [6, 7, 10, 9, 11, 13, 15, 17, 19], [1, 0, 0, 1], 1, 6, 2, 3⟩,
  ⟨[9, 32, 32, 32, 9, 9], [6, 8, 12, 12, 15, 18, 21, 24, 27], [2, 0, 0, 1], 0, 6, 3, 3⟩,
  ⟨[9, 32, 32, 32, 9, 32, 32], [7, 8, 11, 10, 12, 14, 16, 18, 20], [1, 0, 0, 1], 2, 7, 2, 3⟩,
  ⟨[9, 32, 32, 32, 9, 32, 9], [7, 8, 12, 12, 15, 18, 21, 24, 27], [1, 1, 0, 1], 0, 7, 3, 3⟩,
  ⟨[9, 32, 9, 32, 32, 32], [6, 7, 9, 11, 13, 15, 17, 19, 21], [1, 1], 3, 6, 2, 3⟩,
  ⟨[9, 32, 9, 32, 32, 9], [6, 8, 9, 12, 15, 18, 21, 24, 27], [1, 1, 1], 0, 6, 3, 2⟩,
  ⟨[9, 32, 9, 9, 32], [5, 7, 10, 13, 16, 19, 22, 25, 28], [2, 1], 1, 5, 3, 1⟩,
  ⟨[9, 32, 9, 9, 9], [5, 8, 12, 16, 20, 24, 28, 32, 36], [3, 1], 0, 5, 4, 1⟩,
  ⟨[9, 32, 9, 9, 32, 32], [6, 8, 11, 14, 17, 20, 23, 26, 29], [2, 1], 2, 6, 3, 2⟩,
  ⟨[9, 32, 9, 9, 32, 9], [6, 8, 12, 16, 20, 24, 28, 32, 36], [2, 2], 0, 6, 4, 1⟩,
  ⟨[9, 32, 9, 32, 32, 32, 32], [7, 8, 10, 12, 14, 16, 18, 20, 22], [1, 1], 4, 7, 2, 4⟩,
  ⟨[9, 32, 9, 32, 32, 32, 9], [7, 8, 12, 12, 15, 18, 21, 24, 27], [1, 1, 0, 1], 0, 7, 3, 3⟩,
  ⟨[9, 32, 9, 32, 9, 32], [6, 7, 10, 13, 16, 19, 22, 25, 28], [1, 2], 1, 6, 3, 1⟩,
  ⟨[9, 32, 9, 32, 9, 9], [6, 8, 12, 16, 20, 24, 28, 32, 36], [2, 2], 0, 6, 4, 1⟩,
  ⟨[9, 32, 9, 32, 9, 32, 32], [7, 8, 11, 14, 17, 20, 23, 26, 29], [1, 2], 2, 7, 3, 2⟩,
  ⟨[9, 32, 9, 32, 9, 32, 9], [7, 8, 12, 16, 20, 24, 28, 32, 36], [1, 3], 0, 7, 4, 1⟩,
  ⟨[9, 32, 32, 32, 32, 32, 32, 32], [8, 9, 10, 11, 12, 13, 14, 15, 16], [1], 7, 8, 1, 7⟩,
  ⟨[9, 32, 32, 32, 32, 32, 32, 9], [8, 10, 12, 12, 15, 18, 14, 16, 18], [1, 0, 0, 0, 0, 0, 1], 0, 8, 2, 6⟩,
  ⟨[9, 32, 32, 32, 32, 9, 32], [7, 9, 10, 13, 11, 13, 15, 17, 19], [1, 0, 0, 0, 1], 1, 7, 2, 4⟩,
  ⟨[9, 32, 32, 32, 32, 9, 9], [7, 10, 12, 16, 15, 18, 21, 24, 27], [2, 0, 0, 0, 1], 0, 7, 3, 4⟩,
  ⟨[9, 32, 32, 32, 32, 9, 32, 32], [8, 10, 11, 14, 12, 14, 16, 18, 20], [1, 0, 0, 0, 1], 2, 8, 2, 4⟩,
  ⟨[9, 32, 32, 32, 32, 9, 32, 9], [8, 10, 12, 16, 15, 18, 21, 24, 27], [1, 1, 0, 0, 1], 0, 8, 3, 4⟩,
  ⟨[9, 32, 32, 9, 32, 32, 32], [7, 9, 9, 11, 13, 15, 17, 19, 21], [1, 0, 1], 3, 7, 2, 3⟩,
  ⟨[9, 32, 32, 9, 32, 32, 9], [7, 10, 9, 12, 15, 18, 21, 24, 27], [1, 0, 2], 0, 7, 3, 2⟩,
  ⟨[9, 32, 32, 9, 9, 32], [6, 9, 10, 13, 16, 19, 22, 25, 28], [2, 0, 1], 1, 6, 3, 2⟩,
  ⟨[9, 32, 32, 9, 9, 9], [6, 10, 12, 16, 20, 24, 28, 32, 36], [3, 0, 1], 0, 6, 4, 2⟩,
  ⟨[9, 32, 32, 9, 9, 32, 32], [7, 10, 11, 14, 17, 20, 23, 26, 29], [2, 0, 1], 2, 7, 3, 2⟩,
  ⟨[9, 32, 32, 9, 9, 32, 9], [7, 10, 12, 16, 20, 24, 28, 32, 36], [2, 1, 1], 0, 7, 4, 2⟩,
  ⟨[9, 32, 32, 9, 32, 32, 32, 32], [8, 10, 10, 12, 14, 16, 18, 20, 22], [1, 0, 1], 4, 8, 2, 4⟩,
  ⟨[9, 32, 32, 9, 32, 32, 32, 9], [8, 10, 12, 12, 15, 18, 21, 24, 27], [1, 0, 1, 1], 0, 8, 3, 3⟩,
  ⟨[9, 32, 32, 9, 32, 9, 32], [7, 9, 10, 13, 16, 19, 22, 25, 28], [1, 1, 1], 1, 7, 3, 2⟩,
  ⟨[9, 32, 32, 9, 32, 9, 9], [7, 10, 12, 16, 20, 24, 28, 32, 36], [2, 1, 1], 0, 7, 4, 2⟩,
  ⟨[9, 32, 32, 9, 32, 9, 32, 32], [8, 10, 11, 14, 17, 20, 23, 26, 29], [1, 1, 1], 2, 8, 3, 2⟩,
  ⟨[9, 32, 32, 9, 32, 9, 32, 9], [8, 10, 12, 16, 20, 24, 28, 32, 36], [1, 2, 1], 0, 8, 4, 2⟩]

noncomputable def colsK (t : List Nat) : List Nat := (List.range 9).map fun k => colP (k + 1) t
noncomputable def mxP (t : List Nat) : Nat := (runsP t).foldl max 0
noncomputable def longN (r : TRow) : Nat := max (r.cnt.length - 1) r.b
noncomputable def rowGood (r : TRow) : Bool := decide (colsK r.t = r.cols) && decide (nOf r.t = (r.cnt, r.b, r.n, r.nt)) && decide (mxP r.t = r.mx) && Nat.ble r.mx 7 && r.t.all okC && Nat.ble r.t.length 100 && !(runsP r.t).isEmpty && (splitP r.t [9]).all (fun u => Nat.ble u.length 100) && Nat.ble (splitP r.t [9]).length 100 &&
  (List.range 9).all (fun k => indOk r.t (k + 1) && decide (indN r.t (k + 1) = colP (k + 1) r.t)) && !hasP [46, 46, 46] r.t && Nat.ble (longN r) 7
theorem rows_good : ROWS.all rowGood = true := by decide +kernel

/-- how far the columns go so -/
noncomputable def runLt : List Nat → List Nat → Nat
  | a :: l, b :: l' => cond (Nat.blt a b) (runLt l l' + 1) 0
  | _, _ => 0
noncomputable def runEq : List Nat → List Nat → Nat
  | a :: l, b :: l' => cond (Nat.beq a b) (runEq l l' + 1) 0
  | _, _ => 0
theorem all_succ {p : Nat → Prop} {n : Nat} : (∀ k, k < n + 1 → p k) ↔ p 0 ∧ ∀ k, k < n → p (k + 1) :=
  ⟨fun h => ⟨h 0 (Nat.zero_lt_succ _), fun k hk => h (k + 1) (Nat.succ_lt_succ hk)⟩, fun h k hk => by
    cases k with
    | zero => exact h.1
    | succ k => exact h.2 k (Nat.lt_of_succ_lt_succ hk)⟩
theorem runLt_iff (l : List Nat) : ∀ (l' : List Nat) (n : Nat), n ≤ l.length → n ≤ l'.length → (n ≤ runLt l l' ↔ ∀ k, k < n → l.getD k 0 < l'.getD k 0) := by
  induction l with
  | nil => intro l' n h _; rw [Nat.le_zero.mp h]; exact ⟨fun _ k hk => absurd hk (Nat.not_lt_zero k), fun _ => Nat.zero_le _⟩
  | cons a l ih =>
    intro l' n h h'
    cases n with
    | zero => exact ⟨fun _ k hk => absurd hk (Nat.not_lt_zero k), fun _ => Nat.zero_le _⟩
    | succ n =>
      cases l' with
      | nil => exact absurd h' (Nat.not_succ_le_zero n)
      | cons b l' =>
        have ih := ih l' n (Nat.le_of_succ_le_succ h) (Nat.le_of_succ_le_succ h')
        refine Iff.trans ?_ (all_succ (p := fun k => (a :: l).getD k 0 < (b :: l').getD k 0)).symm
        show n + 1 ≤ cond (Nat.blt a b) (runLt l l' + 1) 0 ↔ a < b ∧ ∀ k, k < n → l.getD k 0 < l'.getD k 0
        cases hab : Nat.blt a b with
        | true => exact ⟨fun q => ⟨Nat.le_of_ble_eq_true hab, ih.mp (Nat.le_of_succ_le_succ q)⟩, fun q => Nat.succ_le_succ (ih.mpr q.2)⟩
        | false => exact ⟨fun q => absurd q (Nat.not_succ_le_zero n), fun q => (nomatch hab.symm.trans (Nat.ble_eq_true_of_le q.1))⟩
theorem runEq_iff (l : List Nat) : ∀ (l' : List Nat) (n : Nat), n ≤ l.length → n ≤ l'.length → (n ≤ runEq l l' ↔ ∀ k, k < n → l.getD k 0 = l'.getD k 0) := by
  induction l with
  | nil => intro l' n h _; rw [Nat.le_zero.mp h]; exact ⟨fun _ k hk => absurd hk (Nat.not_lt_zero k), fun _ => Nat.zero_le _⟩
  | cons a l ih =>
    intro l' n h h'
    cases n with
    | zero => exact ⟨fun _ k hk => absurd hk (Nat.not_lt_zero k), fun _ => Nat.zero_le _⟩
    | succ n =>
      cases l' with
      | nil => exact absurd h' (Nat.not_succ_le_zero n)
      | cons b l' =>
        have ih := ih l' n (Nat.le_of_succ_le_succ h) (Nat.le_of_succ_le_succ h')
        refine Iff.trans ?_ (all_succ (p := fun k => (a :: l).getD k 0 = (b :: l').getD k 0)).symm
        show n + 1 ≤ cond (Nat.beq a b) (runEq l l' + 1) 0 ↔ a = b ∧ ∀ k, k < n → l.getD k 0 = l'.getD k 0
        cases hab : Nat.beq a b with
        | true => exact ⟨fun q => ⟨Nat.eq_of_beq_eq_true hab, ih.mp (Nat.le_of_succ_le_succ q)⟩, fun q => Nat.succ_le_succ (ih.mpr q.2)⟩
        | false => exact ⟨fun q => absurd q (Nat.not_succ_le_zero n), fun q => absurd q.1 (Nat.ne_of_beq_eq_false hab)⟩
noncomputable def lessR (a b : TRow) : Bool := if b.n ≤ a.n then false else if (decide (a.cnt.length ≤ 1) && decide (b.cnt.length ≤ 1)) = true then decide (a.nt ≤ b.nt) else decide (max (longN a) (longN b) ≤ runLt (a.cols.drop 1) (b.cols.drop 1))
noncomputable def eqnR (a b : TRow) : Bool := a.cnt == b.cnt && a.b == b.b
noncomputable def pairGood (a b : TRow) : Bool := (if lessR a b = true then Nat.ble 8 (runLt a.cols b.cols) else Nat.ble (runLt a.cols b.cols + 1) (max a.mx b.mx + 1)) && (if eqnR a b = true then Nat.ble 8 (runEq a.cols b.cols) else Nat.ble (runEq a.cols b.cols + 1) (max a.mx b.mx + 1))
theorem pairs_good : (ROWS.all fun a => ROWS.all fun b => pairGood a b) = true := by decide +kernel

section
variable {r a b : TRow}
structure RowOk (r : TRow) : Prop where
  cols : colsK r.t = r.cols
  nof : nOf r.t = (r.cnt, r.b, r.n, r.nt)
  mx : mxP r.t = r.mx
  mx7 : r.mx ≤ 7
  ok : r.t.all okC = true
  len : r.t.length ≤ 100
  ne : runsP r.t ≠ []
  runs : ∀ u ∈ splitP r.t [9], u.length ≤ 100
  nruns : (splitP r.t [9]).length ≤ 100
  ind : ∀ k, k < 9 → indOk r.t (k + 1) = true ∧ indN r.t (k + 1) = colP (k + 1) r.t
  nodots : hasP [46, 46, 46] r.t = false
  long : longN r ≤ 7
theorem row_ok (h : r ∈ ROWS) : RowOk r := by
  have := List.all_eq_true.mp rows_good r h
  unfold rowGood at this
  simp only [Bool.and_eq_true, decide_eq_true_eq, Bool.not_eq_true'] at this
  obtain ⟨⟨⟨⟨⟨⟨⟨⟨⟨⟨⟨h1, h2⟩, h3⟩, h4⟩, h5⟩, h6⟩, h7⟩, h8⟩, h9⟩, h10⟩, h11⟩, h12⟩ := this
  refine ⟨h1, h2, h3, Nat.le_of_ble_eq_true h4, h5, Nat.le_of_ble_eq_true h6, fun e => (by rw [e] at h7; cases h7), fun u m => Nat.le_of_ble_eq_true (List.all_eq_true.mp h8 u m), Nat.le_of_ble_eq_true h9, fun k hk => ?_, h11, Nat.le_of_ble_eq_true h12⟩
  have := List.all_eq_true.mp h10 k (List.mem_range.mpr hk)
  rw [Bool.and_eq_true, decide_eq_true_eq] at this
  exact this
theorem col_at (R : RowOk r) {k : Nat} (hk : k < 9) : colP (k + 1) r.t = r.cols.getD k 0 := by
  rw [← R.cols]
  unfold colsK
  rw [List.getD_eq_getElem?_getD, List.getElem?_map, List.getElem?_range hk]; rfl
theorem cols_len (R : RowOk r) : r.cols.length = 9 := by
  rw [← R.cols]; unfold colsK; rw [List.length_map, List.length_range]
theorem long_cast {n b : Nat} : max ((n : Int) - 1) (b : Int) = ((max (n - 1) b : Nat) : Int) := by omega
theorem max_cast {n b : Nat} : max (n : Int) (b : Int) = ((max n b : Nat) : Int) := by omega
theorem longI_eq (A : RowOk a) : longI a.t = ((longN a : Nat) : Int) := by
  unfold longI longN
  rw [A.nof]
  exact long_cast
theorem lessN_eq (A : RowOk a) (B : RowOk b) : lessN a.t b.t = max (longN a) (longN b) := by
  unfold lessN
  rw [longI_eq A, longI_eq B, max_cast, Int.toNat_natCast]
theorem drop_getD (l : List Nat) (k : Nat) : (l.drop 1).getD k 0 = l.getD (k + 1) 0 := by
  rw [List.getD_eq_getElem?_getD, List.getD_eq_getElem?_getD, List.getElem?_drop, Nat.add_comm]
theorem lessP_eq (A : RowOk a) (B : RowOk b) : lessP a.t b.t = lessR a b := by
  unfold lessP lessR simpleB
  rw [lessN_eq A B, A.nof, B.nof]
  dsimp only
  split
  · rfl
  · split
    · rfl
    · have la : max (longN a) (longN b) ≤ 7 := Nat.max_le.mpr ⟨A.long, B.long⟩
      have hA := cols_len A
      have hB := cols_len B
      generalize max (longN a) (longN b) = m at la ⊢
      rw [Bool.eq_iff_iff, Bool.not_eq_true', List.any_eq_false, decide_eq_true_iff]
      rw [runLt_iff _ _ _ (by rw [List.length_drop, hA]; omega) (by rw [List.length_drop, hB]; omega)]
      refine ⟨fun h k hk => ?_, fun h k hk => ?_⟩
      · have := h k (List.mem_range.mpr hk)
        rw [decide_eq_true_iff, (A.ind (k + 1) (by omega)).2, (B.ind (k + 1) (by omega)).2, col_at A (by omega), col_at B (by omega)] at this
        rw [drop_getD, drop_getD]; exact Nat.lt_of_not_le this
      · have hk := List.mem_range.mp hk
        have := h k hk
        rw [drop_getD, drop_getD] at this
        rw [decide_eq_true_iff, (A.ind (k + 1) (by omega)).2, (B.ind (k + 1) (by omega)).2, col_at A (by omega), col_at B (by omega)]
        exact Nat.not_le_of_lt this
theorem eqnP_eq (A : RowOk a) (B : RowOk b) : eqnP a.t b.t = eqnR a b := by
  unfold eqnP eqnR
  rw [A.nof, B.nof]
/-- what told says of two texts -/
noncomputable def smallT (top : Nat) (x y : List Nat) : Bool := !((List.range top).any fun k => decide (colP (k + 1) y ≤ colP (k + 1) x))
theorem pair_less (ha : a ∈ ROWS) (hb : b ∈ ROWS) {top : Nat} (h1 : a.mx + 1 ≤ top) (h2 : b.mx + 1 ≤ top) (h3 : top ≤ 8) : lessP a.t b.t = smallT top a.t b.t := by
  have A := row_ok ha
  have B := row_ok hb
  have hA := cols_len A
  have hB := cols_len B
  have P := List.all_eq_true.mp (List.all_eq_true.mp pairs_good a ha) b hb
  unfold pairGood at P
  have P := (Bool.and_eq_true_iff.mp P).1
  rw [lessP_eq A B, Bool.eq_iff_iff]
  have key : smallT top a.t b.t = true ↔ top ≤ runLt a.cols b.cols := by
    rw [runLt_iff _ _ _ (by omega) (by omega)]
    unfold smallT
    rw [Bool.not_eq_true', List.any_eq_false]
    refine ⟨fun h k hk => ?_, fun h k hk => ?_⟩
    · have := h k (List.mem_range.mpr hk)
      rw [decide_eq_true_iff, col_at A (by omega), col_at B (by omega)] at this
      exact Nat.lt_of_not_le this
    · have hk := List.mem_range.mp hk
      have := h k hk
      rw [decide_eq_true_iff, col_at A (by omega), col_at B (by omega)]
      exact Nat.not_le_of_lt this
  rw [key]
  have hm : max a.mx b.mx + 1 ≤ top := Nat.succ_le_of_lt (Nat.max_lt.mpr ⟨h1, h2⟩)
  cases hl : lessR a b with
  | true =>
    rw [hl, if_pos rfl] at P
    exact ⟨fun _ => Nat.le_trans h3 (Nat.le_of_ble_eq_true P), fun _ => rfl⟩
  | false =>
    rw [hl, if_neg (fun q => nomatch q)] at P
    exact ⟨fun h => (nomatch h), fun h => absurd (Nat.le_trans hm h) (Nat.not_le_of_lt (Nat.le_of_ble_eq_true P))⟩
theorem pair_eq (ha : a ∈ ROWS) (hb : b ∈ ROWS) {top : Nat} (h1 : a.mx + 1 ≤ top) (h2 : b.mx + 1 ≤ top) (h3 : top ≤ 8) : eqnP a.t b.t = (colsP a.t top == colsP b.t top) := by
  have A := row_ok ha
  have B := row_ok hb
  have hA := cols_len A
  have hB := cols_len B
  have P := List.all_eq_true.mp (List.all_eq_true.mp pairs_good a ha) b hb
  unfold pairGood at P
  have P := (Bool.and_eq_true_iff.mp P).2
  rw [eqnP_eq A B, Bool.eq_iff_iff, beq_iff_eq]
  have key : colsP a.t top = colsP b.t top ↔ top ≤ runEq a.cols b.cols := by
    rw [runEq_iff _ _ _ (by omega) (by omega)]
    unfold colsP
    refine ⟨fun h k hk => ?_, fun h => List.map_congr_left fun k hk => ?_⟩
    · have := congrArg (fun l => l[k]?) h
      simp only [List.getElem?_map, List.getElem?_range hk, Option.map_some, Option.some.injEq] at this
      rw [← col_at A (by omega), ← col_at B (by omega)]; exact this
    · have hk := List.mem_range.mp hk
      rw [col_at A (by omega), col_at B (by omega)]; exact h k hk
  rw [key]
  have hm : max a.mx b.mx + 1 ≤ top := Nat.succ_le_of_lt (Nat.max_lt.mpr ⟨h1, h2⟩)
  cases hl : eqnR a b with
  | true =>
    rw [hl, if_pos rfl] at P
    exact ⟨fun _ => Nat.le_trans h3 (Nat.le_of_ble_eq_true P), fun _ => rfl⟩
  | false =>
    rw [hl, if_neg (fun q => nomatch q)] at P
    exact ⟨fun h => (nomatch h), fun h => absurd (Nat.le_trans hm h) (Nat.not_le_of_lt (Nat.le_of_ble_eq_true P))⟩
end

/-! ## the leads -/
noncomputable def rep6 (t : List Nat) : Option (List Nat) := replP [[46, 46, 46], []] t
noncomputable def rep7 (t : List Nat) : Option (List Nat) := replP [[46, 46, 46], [], [32], [97, 98], [9], [99], [98], []] t
noncomputable def ofRow (t : List Nat) : Bool := ROWS.any fun r => r.t == t
noncomputable def partGood (p : List Nat × List Nat) : Bool := Nat.ble p.1.length 100 && Nat.ble p.2.length 100 && p.1.all okC && p.2.all okC && hasP [46, 46, 46] (p.1 ++ [46, 46, 46] ++ p.2) && splitP (p.1 ++ [46, 46, 46] ++ p.2) [46, 46, 46] == [p.1, p.2]
noncomputable def leadGood (lead : List Nat) : Bool :=
  Nat.ble 4 lead.length && Nat.ble lead.length 100 && Nat.ble (partsP lead).length 100 && (partsP lead).all partGood && lead.all okC &&
  ((List.range (lead.length - 2)).map (fun k => cramP lead ((3 + k : Nat) : Int)) == cramsP (partsP lead) lead) && ([-2, 0, 2] : List Int).all (fun n => cramP lead n == [46, 46, 46]) &&
  ((cramsP (partsP lead) lead).map rep6 == (restsP (partsP lead) lead).map some) && ((cramsP (partsP lead) lead).map rep7 == ((restsP (partsP lead) lead).map (·.map letP)).map some) &&
  ((cramsP (partsP lead) lead).map (fun t => (nOf t).2.2.1) == (partsP lead).map (·.1.length) ++ [lead.length]) && (restsP (partsP lead) lead).all ofRow
theorem leads_good : LEADS.all leadGood = true := by decide +kernel
theorem others_good : OTHERS.all ofRow = true := by decide +kernel
noncomputable def leadD (ds : List Int) : List Nat × List Nat := ds.foldl (fun st d => (st.1 ++ sgP d, st.2 ++ otP d)) ([32, 32], [9, 32])
noncomputable def digs : List Int := [0, 1, 2, 3, 4, 5, 6, 7, 8, 9]
noncomputable def inTab (ds : List Int) : Bool := LEADS.contains ((leadD ds).1 ++ [9, 32, 32, 9]) && OTHERS.contains (leadD ds).2
theorem tab_good : (inTab [] && digs.all fun a => inTab [a] && digs.all fun b => inTab [a, b] && digs.all fun c => inTab [a, b, c]) = true := by decide +kernel
end Mine
namespace Mine
open PySem PySem.Spec PySem.Calls PySem.W PyProof.Rows
open PySem.Builtin PySem.Builtin.Str

/-! ## the script's digits -/
theorem leads_digits (xs : List Int) : leadsP xs = leadD ((xs.take 3).map (·.fmod 10)) := by
  unfold leadsP leadD
  rw [List.foldl_map]
  rfl
theorem dig_mem {x : Int} : x.fmod 10 ∈ digs := by
  have h := dig_cases (fmod10 x)
  unfold digs
  simp only [List.mem_cons, List.not_mem_nil, or_false]
  exact h
theorem in_tab (xs : List Int) : inTab ((xs.take 3).map (·.fmod 10)) = true := by
  have h := tab_good
  rw [Bool.and_eq_true] at h
  match xs with
  | [] => exact h.1
  | [x] =>
    have := List.all_eq_true.mp h.2 _ (dig_mem (x := x))
    rw [Bool.and_eq_true] at this; exact this.1
  | [x, y] =>
    have := List.all_eq_true.mp h.2 _ (dig_mem (x := x))
    rw [Bool.and_eq_true] at this
    have := List.all_eq_true.mp this.2 _ (dig_mem (x := y))
    rw [Bool.and_eq_true] at this; exact this.1
  | x :: y :: z :: r =>
    have := List.all_eq_true.mp h.2 _ (dig_mem (x := x))
    rw [Bool.and_eq_true] at this
    have := List.all_eq_true.mp this.2 _ (dig_mem (x := y))
    rw [Bool.and_eq_true] at this
    exact List.all_eq_true.mp this.2 _ (dig_mem (x := z))
theorem leads_in (xs : List Int) : (leadsP xs).1 ++ [9, 32, 32, 9] ∈ LEADS ∧ (leadsP xs).2 ∈ OTHERS := by
  have h := in_tab xs
  unfold inTab at h
  rw [Bool.and_eq_true, List.contains_iff_mem, List.contains_iff_mem, ← leads_digits] at h
  exact h

/-! ## the pairs -/
structure LeadOk (lead : List Nat) : Prop where
  l4 : 4 ≤ lead.length
  l100 : lead.length ≤ 100
  np : (partsP lead).length ≤ 100
  parts : ∀ p ∈ partsP lead, partGood p = true
  ok : lead.all okC = true
  h3 : (List.range (lead.length - 2)).map (fun k => cramP lead ((3 + k : Nat) : Int)) = cramsP (partsP lead) lead
  h4 : ∀ n ∈ ([-2, 0, 2] : List Int), cramP lead n = [46, 46, 46]
  h6 : (cramsP (partsP lead) lead).map rep6 = (restsP (partsP lead) lead).map some
  h7 : (cramsP (partsP lead) lead).map rep7 = ((restsP (partsP lead) lead).map (·.map letP)).map some
  h8 : (cramsP (partsP lead) lead).map (fun t => (nOf t).2.2.1) = (partsP lead).map (·.1.length) ++ [lead.length]
  rows : ∀ t ∈ restsP (partsP lead) lead, ofRow t = true
theorem lead_ok {lead : List Nat} (h : lead ∈ LEADS) : LeadOk lead := by
  have := List.all_eq_true.mp leads_good lead h
  unfold leadGood at this
  simp only [Bool.and_eq_true, beq_iff_eq] at this
  obtain ⟨⟨⟨⟨⟨⟨⟨⟨⟨⟨h1, h2⟩, h3⟩, h4⟩, h5⟩, h6⟩, h7⟩, h8⟩, h9⟩, h10⟩, h11⟩ := this
  exact ⟨Nat.le_of_ble_eq_true h1, Nat.le_of_ble_eq_true h2, Nat.le_of_ble_eq_true h3, List.all_eq_true.mp h4, h5, h6, fun n m => beq_iff_eq.mp (List.all_eq_true.mp h7 n m), h8, h9, h10, List.all_eq_true.mp h11⟩
structure PartOk (p : List Nat × List Nat) : Prop where
  l1 : p.1.length ≤ 100
  l2 : p.2.length ≤ 100
  o1 : p.1.all okC = true
  o2 : p.2.all okC = true
  has : hasP [46, 46, 46] (p.1 ++ [46, 46, 46] ++ p.2) = true
  split : splitP (p.1 ++ [46, 46, 46] ++ p.2) [46, 46, 46] = [p.1, p.2]
theorem part_ok {p : List Nat × List Nat} (h : partGood p = true) : PartOk p := by
  unfold partGood at h
  simp only [Bool.and_eq_true, beq_iff_eq] at h
  obtain ⟨⟨⟨⟨⟨h1, h2⟩, h3⟩, h4⟩, h5⟩, h6⟩ := h
  exact ⟨Nat.le_of_ble_eq_true h1, Nat.le_of_ble_eq_true h2, h3, h4, h5, h6⟩
theorem row_of {t : List Nat} (h : ofRow t = true) : ∃ r ∈ ROWS, r.t = t := by
  unfold ofRow at h
  obtain ⟨r, m, e⟩ := List.any_eq_true.mp h
  exact ⟨r, m, beq_iff_eq.mp e⟩
theorem max_ge (ns : List Nat) : ∀ k, k ≤ ns.foldl max k ∧ ∀ n ∈ ns, n ≤ ns.foldl max k := by
  induction ns with
  | nil => exact fun k => ⟨Nat.le_refl _, fun n m => nomatch m⟩
  | cons a ns ih =>
    intro k
    obtain ⟨h1, h2⟩ := ih (max k a)
    refine ⟨Nat.le_trans (Nat.le_max_left _ _) h1, fun n m => ?_⟩
    rcases List.mem_cons.mp m with rfl | m
    · exact Nat.le_trans (Nat.le_max_right _ _) h1
    · exact h2 n m
theorem max_le {B : Nat} (ns : List Nat) : ∀ k, k ≤ B → (∀ n ∈ ns, n ≤ B) → ns.foldl max k ≤ B := by
  induction ns with
  | nil => exact fun k h _ => h
  | cons a ns ih => exact fun k h hs => ih _ (Nat.max_le.mpr ⟨h, hs a List.mem_cons_self⟩) fun n m => hs n (List.mem_cons_of_mem _ m)
theorem map_get {α β : Type} {f g : α → β} {l : List α} {t : α} (e : l.map f = l.map g) (h : t ∈ l) : f t = g t := List.map_inj_left.mp e t h
theorem getD_mem {α : Type} {l : List α} {i : Nat} {d : α} (h : i < l.length) : l.getD i d ∈ l := by
  rw [List.getD_eq_getElem?_getD, List.getElem?_eq_getElem h]
  exact List.getElem_mem _
theorem getD_at {α β : Type} {l : List α} {f : α → β} {i : Nat} {d : α} {e : β} (h : i < l.length) : (l.map f).getD i e = f (l.getD i d) := by
  rw [List.getD_eq_getElem?_getD, List.getD_eq_getElem?_getD, List.getElem?_map, List.getElem?_eq_getElem h]; rfl

section
variable {lead other : List Nat}
noncomputable abbrev textsP (lead other : List Nat) : List (List Nat) := restsP (partsP lead) lead ++ [other]
noncomputable abbrev patsP (lead other : List Nat) : List (List Nat) := cramsP (partsP lead) lead ++ [other]
theorem texts_row (L : LeadOk lead) (ho : ofRow other = true) {t : List Nat} (h : t ∈ textsP lead other) : ∃ r ∈ ROWS, r.t = t := by
  rcases List.mem_append.mp h with h | h
  · exact row_of (L.rows t h)
  · rw [List.mem_singleton.mp h]; exact row_of ho
theorem top_bound (L : LeadOk lead) (ho : ofRow other = true) : (∀ t ∈ textsP lead other, mxP t + 1 ≤ topP (textsP lead other)) ∧ topP (textsP lead other) ≤ 8 ∧ (textsP lead other).flatMap runsP ≠ [] := by
  refine ⟨fun t ht => ?_, ?_, fun e => ?_⟩
  · unfold topP
    rw [Nat.add_comm]
    refine Nat.add_le_add_left (max_le _ 0 (Nat.zero_le _) fun n hn => ?_) 1
    exact (max_ge _ 0).2 n (List.mem_flatMap.mpr ⟨t, ht, hn⟩)
  · unfold topP
    show 1 + _ ≤ 1 + 7
    refine Nat.add_le_add_left (max_le _ 0 (Nat.zero_le _) fun n hn => ?_) 1
    obtain ⟨t, ht, hn⟩ := List.mem_flatMap.mp hn
    obtain ⟨r, hr, rfl⟩ := texts_row L ho ht
    have R := row_ok hr
    exact Nat.le_trans ((max_ge _ 0).2 n hn) (by have := R.mx; unfold mxP at this; rw [this]; exact R.mx7)
  · obtain ⟨r, hr, e2⟩ := row_of ho
    have : ∀ t ∈ textsP lead other, runsP t = [] := List.flatMap_eq_nil_iff.mp e
    exact (row_ok hr).ne (by rw [e2]; exact this other (List.mem_append_right _ (List.mem_singleton.mpr rfl)))
noncomputable abbrev r6P (t : List Nat) : List Nat := (rep6 t).getD []
noncomputable abbrev r7P (t : List Nat) : List Nat := (rep7 t).getD []
theorem map_some {α β : Type} {f : α → Option β} {l : List α} {g : List β} {d : β} (h : l.map f = g.map some) : l.map (fun t => (f t).getD d) = g := by
  have := congrArg (List.map fun o : Option β => o.getD d) h
  rw [List.map_map, List.map_map] at this
  rw [show (fun t => (f t).getD d) = (fun o : Option β => o.getD d) ∘ f from rfl, this]
  exact (List.map_congr_left fun _ _ => rfl).trans (List.map_id g)
theorem map_isSome {α β : Type} {f : α → Option β} {l : List α} {g : List β} {d : β} {t : α} (h : l.map f = g.map some) (m : t ∈ l) : f t = some ((f t).getD d) := by
  have : f t ∈ g.map some := h ▸ List.mem_map_of_mem m
  obtain ⟨u, _, e⟩ := List.mem_map.mp this
  rw [← e]; rfl
theorem law_p (L : LeadOk lead) (ho : ofRow other = true) {xs : List Int} (hx : xs.length ≤ 1000) : LawP xs lead other (partsP lead) r6P r7P (topP (textsP lead other)) := by
  obtain ⟨t1, t2, t3⟩ := top_bound L ho
  obtain ⟨ro, hro, eo⟩ := row_of ho
  refine ⟨hx, ⟨L.l4, L.l100⟩, L.np, fun p m => ?_, L.ok, eo ▸ (row_ok hro).ok, fun p m => ?_, L.h3, map_some L.h6, map_some L.h7, L.h8, fun t ht => ?_, t3, ?_, rfl, by omega⟩
  · have P := part_ok (L.parts p m); exact ⟨P.l1, P.l2⟩
  · have P := part_ok (L.parts p m); exact ⟨P.o1, P.o2⟩
  · obtain ⟨r, hr, rfl⟩ := texts_row L ho ht
    have R := row_ok hr
    exact ⟨R.len, R.nruns, R.runs⟩
  · have key : ∀ (ts : List (List Nat)), (∀ t ∈ ts, (runsP t).length ≤ 100) → (ts.flatMap runsP).length ≤ ts.length * 100 := by
      intro ts
      induction ts with
      | nil => exact fun _ => Nat.zero_le _
      | cons t ts ih =>
        intro h
        rw [List.flatMap_cons, List.length_append, List.length_cons, Nat.succ_mul, Nat.add_comm]
        exact Nat.add_le_add (ih fun t m => h t (List.mem_cons_of_mem _ m)) (h t List.mem_cons_self)
    have h := key (textsP lead other) fun t ht => by
      obtain ⟨r, hr, rfl⟩ := texts_row L ho ht
      unfold runsP
      rw [List.length_map]; exact (row_ok hr).nruns
    have : (textsP lead other).length ≤ 102 := by
      show (((partsP lead).map fun p => p.1 ++ p.2) ++ [lead] ++ [other]).length ≤ 102
      rw [List.length_append, List.length_append, List.length_map]
      exact Nat.add_le_add_right (Nat.add_le_add_right L.np 1) 1
    exact Nat.le_trans h (Nat.le_trans (Nat.mul_le_mul_right 100 this) (by decide))
theorem rows_congr {p q r p' q' r' : Nat → Bool} {n : Nat} (h1 : ∀ i, i < n → p i = p' i) (h2 : ∀ i, i < n → q i = q' i) (h3 : ∀ i, i < n → r i = r' i) : rowsD p q r n = rowsD p' q' r' n := by
  have key : ∀ (p p' : Nat → Bool), (∀ i, i < n → p i = p' i) → (List.range n).map p = (List.range n).map p' := fun p p' h => List.map_congr_left fun i hi => h i (List.mem_range.mp hi)
  unfold rowsD
  rw [key p p' h1, key q q' h2, key r r' h3]
theorem getD_right {a b c d : List (List Nat)} {i : Nat} (h : ¬ i < a.length) (hl : a.length = b.length) : (a ++ c ++ d).getD i [] = (b ++ c ++ d).getD i [] := by
  have e1 : (a ++ (c ++ d))[i]? = (c ++ d)[i - a.length]? := List.getElem?_append_right (Nat.le_of_not_lt h)
  have e2 : (b ++ (c ++ d))[i]? = (c ++ d)[i - b.length]? := List.getElem?_append_right (hl ▸ Nat.le_of_not_lt h)
  rw [List.append_assoc, List.append_assoc b c d, List.getD_eq_getElem?_getD, List.getD_eq_getElem?_getD, e1, e2, hl]
/-- the pattern of a place -/
theorem pat_at (L : LeadOk lead) {i : Nat} (hi : i < (textsP lead other).length) : (i < (partsP lead).length ∧ (patsP lead other).getD i [] = ((partsP lead).getD i ([], [])).1 ++ [46, 46, 46] ++ ((partsP lead).getD i ([], [])).2) ∨ (¬ i < (partsP lead).length ∧ (patsP lead other).getD i [] = (textsP lead other).getD i []) := by
  by_cases h : i < (partsP lead).length
  · refine .inl ⟨h, ?_⟩
    show (((partsP lead).map fun p => p.1 ++ [46, 46, 46] ++ p.2) ++ [lead] ++ [other]).getD i [] = _
    rw [List.getD_eq_getElem?_getD, List.append_assoc, List.getElem?_append_left (by rw [List.length_map]; exact h), List.getElem?_map, getD_some (d := ([], [])) h]; rfl
  · refine .inr ⟨h, ?_⟩
    exact getD_right (by rw [List.length_map]; exact h) (by rw [List.length_map, List.length_map])
set_option maxHeartbeats 4000000 in
theorem law_c {w : World} {K : Frag} (T : TopOk K) (L : LeadOk lead) (ho : ofRow other = true) {xs : List Int} (hx : xs.length ≤ 1000) (e1 : (leadsP xs).1 ++ [9, 32, 32, 9] = lead) (e2 : (leadsP xs).2 = other) :
    LawC w K 5 xs lead other (partsP lead) r6P r7P (topP (textsP lead other)) (standB (partsP lead) (textsP lead other)) (smallB ((textsP lead other).map fun t => colsP t (topP (textsP lead other)))) (alikeB ((textsP lead other).map fun t => colsP t (topP (textsP lead other)))) := by
  obtain ⟨t1, t2, t3⟩ := top_bound L ho
  have P := law_p L ho hx
  have lts : (textsP lead other).length = (partsP lead).length + 2 := by
    show (((partsP lead).map fun p => p.1 ++ p.2) ++ [lead] ++ [other]).length = _
    rw [List.length_append, List.length_append, List.length_map]; rfl
  have lps : (patsP lead other).length = (textsP lead other).length := by
    rw [lts]
    show (((partsP lead).map fun p => p.1 ++ [46, 46, 46] ++ p.2) ++ [lead] ++ [other]).length = _
    rw [List.length_append, List.length_append, List.length_map]; rfl
  have np := L.np
  have hrow := fun t (ht : t ∈ textsP lead other) => texts_row L ho ht
  have rowAt := fun i (hi : i < (textsP lead other).length) => hrow _ (getD_mem (d := []) hi)
  have hrest : ∀ t ∈ restsP (partsP lead) lead, t.length ≤ 100 ∧ t.all okC = true := fun t ht => by
    obtain ⟨r, hr, rfl⟩ := hrow t (List.mem_append_left _ ht)
    exact ⟨(row_ok hr).len, (row_ok hr).ok⟩
  have hcr : ∀ t ∈ cramsP (partsP lead) lead, t.length ≤ 1000 ∧ t.all okC = true := fun t ht => by
    unfold cramsP at ht
    rcases List.mem_append.mp ht with ht | ht
    · obtain ⟨p, hp, rfl⟩ := List.mem_map.mp ht
      have Q := part_ok (L.parts p hp)
      refine ⟨?_, by rw [List.all_append, List.all_append, Q.o1, Q.o2]; rfl⟩
      have q1 := Q.l1
      have q2 := Q.l2
      rw [List.length_append, List.length_append]
      show p.1.length + 3 + p.2.length ≤ 1000
      omega
    · rw [List.mem_singleton.mp ht]; exact ⟨Nat.le_trans L.l100 (by decide), L.ok⟩
  have le1 : 1 ≤ 5 := by decide
  refine ⟨?_, ?_, fun k hk => ?_, fun n hn => ?_, fun t ht => ?_, fun t ht => ?_, fun t ht => ?_, fun t ht => ?_, fun t ht => ?_, fun t ht => ?_, fun t ht k hk => ?_, fun j hj => ?_, fun j hj => ?_⟩
  · rw [← e1, ← e2]
    exact (c_leads (l := 0) T hx).le le1
  · exact (c_parts (l := 0) T (Nat.le_trans (by decide) L.l4) (Nat.le_trans L.l100 (by decide))).le le1
  · have hl := L.l100
    exact (c_cram (l := 0) T (Nat.le_trans hl (by decide)) (by omega) (by omega)).le le1
  · have hn' : -1000 ≤ n ∧ n ≤ 1000 := by
      rcases List.mem_cons.mp hn with rfl | hn
      · decide
      rcases List.mem_cons.mp hn with rfl | hn
      · decide
      · rw [List.mem_singleton.mp hn]; decide
    rw [← L.h4 n hn]
    exact (c_cram (l := 0) T (Nat.le_trans L.l100 (by decide)) hn'.1 hn'.2).le le1
  · exact (c_replace (l := 0) T (ps := [[46, 46, 46], []]) (.inl rfl) (map_isSome (d := []) L.h6 ht)).le le1
  · exact (c_replace (l := 0) T (ps := [[46, 46, 46], [], [32], [97, 98], [9], [99], [98], []]) (.inr rfl) (map_isSome (d := []) L.h7 ht)).le le1
  · exact (c_letters (l := 0) T (Nat.le_trans (hrest t ht).1 (by decide)) (hrest t ht).2).le le1
  · exact (ws_ok (l := 0) T (hcr t ht).1 (hcr t ht).2).le (by decide)
  · obtain ⟨r, hr, rfl⟩ := hrow t ht
    exact (ws_ok (l := 0) T (Nat.le_trans (row_ok hr).len (by decide)) (row_ok hr).ok).le (by decide)
  · obtain ⟨r, hr, rfl⟩ := hrow t ht
    exact (c_columns (l := 0) T (Nat.le_trans (row_ok hr).len (by decide)) (by omega) (row_ok hr).ok).le le1
  · obtain ⟨r, hr, rfl⟩ := hrow t ht
    have R := (row_ok hr).ind k (by omega)
    rw [← R.2]
    exact (m_indent (l := 0) T (ts := k + 1) (Nat.le_trans (row_ok hr).len (by decide)) (Nat.succ_le_succ (Nat.zero_le _)) (by omega) R.1).le le1
  · obtain ⟨rj, hrj, ej⟩ := rowAt j hj
    have Rj := row_ok hrj
    have h := c_asked (w := w) T (pats := patsP lead other) (texts := textsP lead other) (spaces := textsP lead other) (j := j) lps rfl (by omega) hj (fun i hi => ?_) (fun i hi => ?_)
    · rw [rows_congr (p' := standB (partsP lead) (textsP lead other) j) (q' := smallB ((textsP lead other).map fun t => colsP t (topP (textsP lead other))) j) (r' := alikeB ((textsP lead other).map fun t => colsP t (topP (textsP lead other))) j) (fun i hi => ?_) (fun i hi => ?_) (fun i hi => ?_)] at h
      · exact h
      · rcases pat_at L hi with ⟨hp, e⟩ | ⟨hp, e⟩
        · have Q := part_ok (L.parts _ (getD_mem (d := ([], [])) hp))
          rw [e]
          unfold ellP standB
          rw [if_pos Q.has, if_pos hp, Q.split]; rfl
        · obtain ⟨ri, hri, ei⟩ := rowAt i hi
          rw [e]
          unfold ellP standB
          rw [if_neg hp, ← ei, if_neg (by rw [(row_ok hri).nodots]; exact fun q => nomatch q)]
      · obtain ⟨ri, hri, ei⟩ := rowAt i hi
        have b1 := t1 _ (getD_mem (d := []) hi)
        have b2 := t1 _ (getD_mem (d := []) hj)
        rw [← ei] at b1
        rw [← ej] at b2
        rw [(row_ok hri).mx] at b1
        rw [Rj.mx] at b2
        rw [← ei, ← ej, pair_less hri hrj b1 b2 t2]
        unfold smallB smallT
        rw [getD_at (f := fun t => colsP t (topP (textsP lead other))) (d := []) hi, getD_at (f := fun t => colsP t (topP (textsP lead other))) (d := []) hj, ← ei, ← ej]
        have lc : ∀ t, (colsP t (topP (textsP lead other))).length = topP (textsP lead other) := fun t => by unfold colsP; rw [List.length_map, List.length_range]
        rw [lc]
        congr 1
        rw [Bool.eq_iff_iff, List.any_eq_true, List.any_eq_true]
        have ce : ∀ t k, k ∈ List.range (topP (textsP lead other)) → (colsP t (topP (textsP lead other))).getD k 0 = colP (k + 1) t := fun t k hk => by
          unfold colsP
          rw [List.getD_eq_getElem?_getD, List.getElem?_map, List.getElem?_range (List.mem_range.mp hk)]; rfl
        exact ⟨fun ⟨k, m, q⟩ => ⟨k, m, by rw [ce _ k m, ce _ k m]; exact q⟩, fun ⟨k, m, q⟩ => ⟨k, m, by rw [ce _ k m, ce _ k m] at q; exact q⟩⟩
      · obtain ⟨ri, hri, ei⟩ := rowAt i hi
        have b1 := t1 _ (getD_mem (d := []) hi)
        have b2 := t1 _ (getD_mem (d := []) hj)
        rw [← ei] at b1
        rw [← ej] at b2
        rw [(row_ok hri).mx] at b1
        rw [Rj.mx] at b2
        rw [← ei, ← ej, pair_eq hri hrj b1 b2 t2]
        unfold alikeB
        rw [getD_at (f := fun t => colsP t (topP (textsP lead other))) (d := []) hi, getD_at (f := fun t => colsP t (topP (textsP lead other))) (d := []) hj, ← ei, ← ej]
    · rw [← ej]
      obtain ⟨ri, hri, ei⟩ := rowAt i hi
      rcases pat_at L hi with ⟨hp, e⟩ | ⟨hp, e⟩
      · have m := getD_mem (d := ([], [])) hp
        have Q := part_ok (L.parts _ m)
        have H := hcr _ (show ((partsP lead).getD i ([], [])).1 ++ [46, 46, 46] ++ ((partsP lead).getD i ([], [])).2 ∈ cramsP (partsP lead) lead from List.mem_append_left _ (List.mem_map_of_mem (f := fun p : List Nat × List Nat => p.1 ++ [46, 46, 46] ++ p.2) m))
        rw [e]
        exact ⟨⟨H.2, Rj.ok, H.1, Nat.le_trans Rj.len (by decide)⟩, fun _ => ⟨_, _, Q.split, Nat.le_trans Q.l1 (by decide), Nat.le_trans Q.l2 (by decide)⟩⟩
      · rw [e, ← ei]
        have R := row_ok hri
        exact ⟨⟨R.ok, Rj.ok, Nat.le_trans R.len (by decide), Nat.le_trans Rj.len (by decide)⟩, fun q => by rw [R.nodots] at q; cases q⟩
    · obtain ⟨ri, hri, ei⟩ := rowAt i hi
      rw [← ei, ← ej]
      have R := row_ok hri
      refine ⟨⟨Nat.le_trans R.len (by decide), Nat.le_trans Rj.len (by decide)⟩, fun k hk => ?_⟩
      rw [lessN_eq R Rj] at hk
      have h7 : max (longN ri) (longN rj) ≤ 7 := Nat.max_le.mpr ⟨R.long, Rj.long⟩
      exact ⟨by omega, (R.ind (k + 1) (by omega)).1, (Rj.ind (k + 1) (by omega)).1⟩
  · have lcs : ((textsP lead other).map fun t => colsP t (topP (textsP lead other))).length = (textsP lead other).length := List.length_map _
    have lc : ∀ t, (colsP t (topP (textsP lead other))).length = topP (textsP lead other) := fun t => by unfold colsP; rw [List.length_map, List.length_range]
    have any : ∀ i, (((textsP lead other).map fun t => colsP t (topP (textsP lead other))).getD i []).length ≤ 500 := fun i => by
      by_cases hi : i < (textsP lead other).length
      · rw [getD_at (f := fun t => colsP t (topP (textsP lead other))) (d := []) hi, lc]; omega
      · rw [List.getD_eq_getElem?_getD, List.getElem?_eq_none (by rw [lcs]; exact Nat.le_of_not_lt hi)]; exact Nat.zero_le _
    refine (c_told (l := 0) T (by omega) (by omega) lcs any (fun i hi => ?_) hj (fun i => ?_) (fun p hp => ?_)).le (by decide)
    · rw [getD_at (f := fun t => colsP t (topP (textsP lead other))) (d := []) hi, getD_at (f := fun t => colsP t (topP (textsP lead other))) (d := []) hj, lc, lc]
    · by_cases hi : i < (textsP lead other).length
      · obtain ⟨r, hr, e⟩ := rowAt i hi
        rw [← e]
        exact ⟨(row_ok hr).ok, Nat.le_trans (row_ok hr).len (by decide)⟩
      · rw [List.getD_eq_getElem?_getD, List.getElem?_eq_none (Nat.le_of_not_lt hi)]; exact ⟨rfl, Nat.zero_le _⟩
    · have Q := part_ok (L.parts p hp)
      exact ⟨⟨Nat.le_trans Q.l1 (by decide), Nat.le_trans Q.l2 (by decide)⟩, Q.o1, Q.o2⟩
theorem law_call {w : World} {K : Frag} (T : TopOk K) {xs : List Int} (hx : xs.length ≤ 1000) : CallOk w K 6 (.fn (.ref 170)) [.d (.list (xs.map .int))] (.d (.bool true)) := by
  obtain ⟨h1, h2⟩ := leads_in xs
  have L := lead_ok h1
  have ho := List.all_eq_true.mp others_good _ h2
  exact law_ok T (law_p L ho hx) (law_c T L ho hx rfl rfl)
end
end Mine
namespace Mine
open PySem PySem.Spec PySem.Calls PySem.W PySem.W.X PyProof.Rows
open PySem.Challenge
/-! ## the top's run, on a tree of objects -/
section
variable (tb : String → Option Builtin) (p : Program) (w : World) (n₀ : Nat) (ann : Option Value)
noncomputable def topRunT : Nat → SharedT → Thread → Option SharedT
  | 0, _, _ => none
  | n + 1, s, t => match through t with
    | true => some s
    | false => match stepOk n₀ ann t with
      | false => none
      | true => match stepT (denote tb) p w s t with
        | some (s', t') => topRunT n s' t'
        | none => none
end
theorem topRun_of {tb : String → Option Builtin} {p : Program} {w : World} {n₀ : Nat} {ann : Option Value} (n : Nat) : ∀ {s s' : SharedT} {t : Thread}, topRunT tb p w n₀ ann n s t = some s' → topRun tb p w n₀ ann n s.abs t = some s'.abs := by
  induction n with
  | zero => intro s s' t h; cases h
  | succ n ih =>
    intro s s' t h
    unfold topRunT at h
    unfold topRun
    cases ht : through t with
    | true => rw [ht] at h; cases h; rfl
    | false =>
      rw [ht] at h
      cases hk : stepOk n₀ ann t with
      | false => rw [hk] at h; cases h
      | true =>
        rw [hk] at h
        cases hs : stepT (denote tb) p w s t with
        | none => rw [hs] at h; cases h
        | some r =>
          obtain ⟨s₂, t₂⟩ := r
          rw [hs] at h
          show (match step (denote tb) p w s.abs t with | .go s' t' => topRun tb p w n₀ ann n s' t' | .halt _ _ => none) = _
          rw [stepT_spec hs]; exact ih h
theorem tw_step : @stepT = @PySem.W.Fast.tw10156331382660048174 := PySem.W.Fast.te10156331382660048174
theorem tw_den : @denote = @PySem.W.Fast.tw11892475500146522536 := PySem.W.Fast.te11892475500146522536
/-- the same run, with the library's quick forms of a step -/
noncomputable def topRunF (tb : String → Option Builtin) (p : Program) (w : World) (n₀ : Nat) (ann : Option Value) : Nat → SharedT → Thread → Option SharedT
  | 0, _, _ => none
  | n + 1, s, t => match through t with
    | true => some s
    | false => match stepOk n₀ ann t with
      | false => none
      | true => match PySem.W.Fast.tw10156331382660048174 (PySem.W.Fast.tw11892475500146522536 tb) p w s t with
        | some (s', t') => topRunF tb p w n₀ ann n s' t'
        | none => none
theorem topRunF_eq {tb : String → Option Builtin} {p : Program} {w : World} {n₀ : Nat} {ann : Option Value} (n : Nat) : ∀ {s : SharedT} {t : Thread}, topRunF tb p w n₀ ann n s t = topRunT tb p w n₀ ann n s t := by
  induction n with
  | zero => intro s t; rfl
  | succ n ih =>
    intro s t
    unfold topRunF topRunT
    rw [← tw_step, ← tw_den]
    cases through t with
    | true => rfl
    | false =>
      cases stepOk n₀ ann t with
      | false => rfl
      | true =>
        dsimp only
        cases stepT (denote tb) p w s t with
        | none => rfl
        | some r => exact ih
noncomputable def treeL (os : List Obj) : Nat → Nat → Nat → BT
  | 0, _, _ => .nil
  | n + 1, a, b => match os[b]? with
    | some o => .node o (treeL os n (2 * a) (a + b)) (treeL os n (2 * a) (2 * a + b))
    | none => .nil
noncomputable def bootT (w : World) (os : OsState) : SharedT := ⟨treeL (boot_heap w.params).objs.toList 12 1 0, (boot_heap w.params).objs.size, (boot_heap w.params).life, Array.mk [], boot_drawn, boot_toks, os⟩
theorem boot_abs (w : World) (os : OsState) : (bootT w os).abs = ⟨boot_heap w.params, Array.mk [], boot_drawn, boot_toks, os⟩ := by kernel_rfl
theorem boot_size (w : World) : ((boot_heap w.params).isNs mainGlobals, (boot_heap w.params).objs.size, (boot_heap w.params).nsMap mainGlobals "__annotations__") = (true, 11, some (.ref 6)) := by kernel_rfl
noncomputable def qv : Program := view pw_pe0211_01 [0,2,3,4,6,7,9,11,12,13,14,15,16,17,18,19]
abbrev ObsT := Option Obj × Bool × Bool × List (Option FnL)
noncomputable def obs (s : Shared) : ObsT := (s.heap.get? TAB, topLook (frozen s.heap), fnB (frozen s.heap) "law" 170, FNS.map fun p => fnLook (frozen s.heap) p.1)
noncomputable def seenT : ObsT := (some (tabObj #[]), true, true, FNS.map fun p => fnGood p.2)
noncomputable abbrev lv : List Str := [Str.ofString "Whitespace"]
noncomputable abbrev Xt (s : Shared) : Bool := xlAt qv [] s && recOk (RowW.records rw_pe0211_01.row.toRowW) s
noncomputable def looks (w : World) (s : Shared) := ((staticsOk (importedModules pw_pe0211_01.main.body) (boot_heap w.params) s.heap && namesBound pw_pe0211_01 s.heap && gensDone s && laidKept (boot_heap w.params) s.heap), openSeen qv lv (importedModules pw_pe0211_01.main.body) Xt true s, obs s)
theorem sideF (w : World) (os : OsState) : (topRunF treeTable pw_pe0211_01 (w.withFollow "special-get-raises" false) 11 (some (.ref 6)) 2062 (bootT (w.withFollow "special-get-raises" false) os) (topStub pw_pe0211_01)).map (fun s => looks (w.withFollow "special-get-raises" false) s.abs) = some (true, openGood qv lv, seenT) := by
  kernel_rfl
theorem sideT (w : World) (os : OsState) : (topRunF treeTable pw_pe0211_01 (w.withFollow "special-get-raises" true) 11 (some (.ref 6)) 2062 (bootT (w.withFollow "special-get-raises" true) os) (topStub pw_pe0211_01)).map (fun s => looks (w.withFollow "special-get-raises" true) s.abs) = some (true, openGood qv lv, seenT) := by
  kernel_rfl
theorem booted : ∀ w : World, (fencedOpening treeTable pw_pe0211_01 w 2062).map (fun s => (s.heap, s.gens, s.drawn, s.toks)) = some (boot_heap w.params, Array.mk [], boot_drawn, boot_toks) :=
  boot_open (by kernel_rfl) (by kernel_rfl) (fun s => by kernel_rfl)
theorem left_key (w : World) (h : ∀ os, (topRunF treeTable pw_pe0211_01 w 11 (some (.ref 6)) 2062 (bootT w os) (topStub pw_pe0211_01)).map (fun s => looks w s.abs) = some (true, openGood qv lv, seenT)) :
    (openEnds treeTable pw_pe0211_01 w 2062).map (fun s => (openSeen qv lv (importedModules pw_pe0211_01.main.body) Xt true s, obs s)) = some (openGood qv lv, seenT) := by
  obtain ⟨⟨hp, gs, d, k, os⟩, e, e'⟩ := Option.map_eq_some_iff.mp (booted w)
  simp only [Prod.mk.injEq] at e'
  obtain ⟨rfl, rfl, rfl, rfl⟩ := e'
  obtain ⟨s, r, q⟩ := Option.map_eq_some_iff.mp (h os)
  rw [topRunF_eq] at r
  have r := topRun_of _ r
  rw [boot_abs] at r
  unfold looks at q
  simp only [Prod.mk.injEq] at q
  obtain ⟨q1, q2, q3⟩ := q
  have z := boot_size w
  simp only [Prod.mk.injEq] at z
  obtain ⟨z1, z2, z3⟩ := z
  have t : topFrom treeTable pw_pe0211_01 w 2062 ⟨boot_heap w.params, Array.mk [], boot_drawn, boot_toks, os⟩ = some s.abs := by
    unfold topFrom
    dsimp only
    rw [z1, z2, z3, r]
    show (match staticsOk (importedModules pw_pe0211_01.main.body) (boot_heap w.params) s.abs.heap && namesBound pw_pe0211_01 s.abs.heap && gensDone s.abs && laidKept (boot_heap w.params) s.abs.heap with | true => some s.abs | false => none) = _
    rw [q1]
  unfold openEnds
  rw [e]
  show (topFrom treeTable pw_pe0211_01 w 2062 _).map _ = _
  rw [t]
  exact congrArg some (Prod.ext q2 q3)
theorem left0 : LeftO pw_pe0211_01 qv lv Xt obs (fun _ => seenT) 2062 :=
  byRow2 "special-get-raises" (P := fun w => (openEnds treeTable pw_pe0211_01 w 2062).map (fun s => (openSeen qv lv (importedModules pw_pe0211_01.main.body) Xt true s, obs s)) = some (openGood qv lv, seenT))
    (fun w => left_key _ (sideF w)) (fun w => left_key _ (sideT w))
end Mine
namespace Mine
open PySem PySem.Spec PySem.Calls PySem.W PySem.W.X PyProof.Rows
open PySem.Builtin PySem.Builtin.Str
/-! ## the end -/
theorem ext_old {K : Frag} {h h' : Heap} (T : LamTop K) (g : Good K h) (x : Ext h h') : OldK h h' := by
  refine ⟨fun b o e => ?_, fun b o e => ?_⟩
  · rcases x b o e with q | ⟨rfl, vs, more, rfl, q⟩
    · exact .inl q
    · have C := codeHd_of_K g.inn T.code
      exact .inr (.inl ⟨(C.tab e).isCodeTable, rfl, vs, more, rfl, q⟩)
  · rcases x b o e with q | ⟨rfl, vs, more, rfl, q⟩
    · exact ⟨_, q⟩
    · exact ⟨_, q⟩
theorem law_end {w : World} {K : Frag} (T : TopOk K) {s : Shared} (g : Good K s.heap) (hg : s.gens = #[]) {xs : List Int} (hx : xs.length ≤ 1000) {a : Addr} {as : List Addr} (hr : Reads s.heap (.ref a) (.list (xs.map .int)) as)
    {c : ClaimW} {cl : Str → Option Addr} {mean : ExcName → Option Value} {args : List WData} (h1 : ∀ cls, c.raises args cls = false) (h2 : c.post args (.bool true) args = true) {E : Value → Shared → Prop} :
    wpAny (model prog w) callerA (call (.ref 170) [.ref a]) (fun v s' => GoodWG c cl mean args s (.ok (.ret v)) s') E s := by
  have C := law_call (w := w) T hx
  have ro : Room 6 callerA := ⟨rfl, by show 301 + 6 < 900; decide, by show 4 + 20 * 6 + 300 < cLine; decide⟩
  refine C.call callerA s (fun _ => True) _ E (.ref 170) [.ref a] ro g (fun _ _ => trivial) rfl (.cons ⟨as, hr, fun _ _ => trivial⟩ .nil) fun h' tk val x g' rv => ?_
  have hv : val = .bool true := Rd.bool_inv rv
  subst hv
  exact ⟨.inl ⟨_, _, [], rfl, h1, ReadsW.bool true, h2, fun _ => ⟨List.nodup_nil, fun _ hm => (nomatch hm)⟩⟩, ext_old T.lam g x, rfl, by rw [show ({ s with heap := h', toks := tk } : Shared).gens = #[] from hg]; exact AllBare.empty⟩
end Mine
namespace Mine
open PySem PySem.Spec PySem.Calls PySem.W PySem.W.X PyProof.Rows
open PySem.Challenge
/-! ## the law's own looks -/
abbrev lw : OpenLaw := rw_pe0211_01
theorem said01a : looksOpen lw.row.prog = true := by kernel_rfl
theorem said01b : lw.row.wellSaid = true := by
  unfold OpenRow.wellSaid OpenRow.partSaid
  rw [said01a]
  kernel_rfl
theorem said02 : (decide (lw.foot ≤ (behindTheImports lw.prog).length)) = true := by kernel_rfl
theorem said03 : lw.footing.all footLine = true := by kernel_rfl
theorem said04 : noClassBlock lw.prog lw.footing = true := by kernel_rfl
theorem said05 : lw.most.all (fun n => decide (63 ≤ n)) = true := by kernel_rfl
theorem said06 : lw.bound.all (fun n => decide (2 ^ 63 ≤ n)) = true := by kernel_rfl
theorem said07 : noRoadLSs { strict := true, foot := some lw.bound', writes := lw.writes, may := lw.may } lw.footing = true := by kernel_rfl
theorem said08 : defStands lw.about lw.above = true := by kernel_rfl
theorem said09 : lw.namesIt = true := by kernel_rfl
theorem said10 : (["type", "isinstance", "issubclass", "getattr", "hasattr"] : List Str).all (fun n => lw.about != [n]) = true := by kernel_rfl
theorem said11 : lw.bound'.all (fun n => !builtinNamed n || lw.about == [n] || !lw.reads n) = true := by kernel_rfl
theorem said12 : (!lw.writes || (lw.prog.main.body.flatMap importedNames).all fun n => !lw.reads n) = true := by kernel_rfl
theorem said13 : (lw.prog.main.body.flatMap importedNames).all (fun n => !lw.reads n || (drawsOf n lw.prog.main.body).all fun mn => mn.2 != ("attrgetter" : Str) && mn.2 != ("methodcaller" : Str)) = true := by kernel_rfl
theorem said14 : namesMeet lw.prog lw.footing (fun sc n => (!(["type", "isinstance", "issubclass", "getattr", "hasattr"] : List Str).contains n || sc.names.lookup n == some .globalImplicit) &&
    (lw.may != some n || sc.kind == .module || sc.names.lookup n == some .globalImplicit)) = true := by kernel_rfl
theorem said15 : lw.own.contains lw.name = true := by kernel_rfl
theorem said16 : (lw.own.eraseDups.length == lw.own.length) = true := by kernel_rfl
theorem said17 : lw.own.all (fun n => !builtinNamed n) = true := by kernel_rfl
theorem said18 : namesMeet lw.prog lw.above (fun _ n => !lw.own.contains n) = true := by kernel_rfl
theorem said19 : (namesMeet lw.prog lw.footing fun sc n => sc.kind == .module || sc.names.lookup n != some .globalExplicit) = true := by kernel_rfl
theorem well_said : lw.wellSaid = true :=
  look_both (look_both (look_both (look_both (look_both (look_both (look_both (look_both (look_both (look_both (look_both (look_both (look_both (look_both (look_both (look_both (look_both (look_both said01b said02) said03) said04) said05) said06) said07) said08) said09) said10) said11) said12) said13) said14) said15) said16) said17) said18) said19
theorem law_row : rw_pe0211_01.Holds := by
  refine holds_law well_said fun said => ?_
  refine holds_openX (q := qv) (loose := lv) (Xt := Xt) (XP := XL qv []) (Yf := obs) (Ya := fun _ => seenT) (N := 2062) left0 (fun s e => xl_of s (Bool.and_eq_true_iff.mp e).1) XL.keeps (by rfl) (by rfl) (by rfl) (fun s e => recFacts_of (Bool.and_eq_true_iff.mp e).2) (by rfl) said (by decide +kernel) ⟨rfl, rfl, rfl, rfl, rfl, by decide +kernel⟩ ?hw ?hc
  case hw => w_witness2
  case hc =>
    k_fill
    intro w s₀ s₁ mg mb G y fa o pm cd doc dV kV ho hd hcd hD hmg hg args vals as L hpre hlay hrd hwl hlo
    refine Ground.open G ?_
    intro T B D TE TW
    wrow_args hpre hlay hrd hwl hlo
    clear hd hD hcd ho
    rename_i xs q1 q2 q3 q4 q5 as1 as2 a vs as3 hL ra w1 r0 hI q6 hc1 hc2
    have y1 : s₀.heap.get? TAB = some (Mine.tabObj #[]) := congrArg (fun x : ObsT => x.1) y
    have y2 : topLook (frozen s₀.heap) = true := congrArg (fun x : ObsT => x.2.1) y
    have y3 : fnB (frozen s₀.heap) "law" 170 = true := congrArg (fun x : ObsT => x.2.2.1) y
    have y4 : FNS.map (fun p => fnLook (frozen s₀.heap) p.1) = FNS.map (fun p => fnGood p.2) := congrArg (fun x : ObsT => x.2.2.2) y
    have g : Good (frozen s₀.heap) s₁.heap := (frozen_self y1).keep L.keeps
    have TT : TopOk (frozen s₀.heap) := top_of (by rw [frozen_lookup, if_pos rfl]) y2 (List.map_inj_left.mp y4)
    have e : Value.ref fa = Value.ref 170 := Option.some.inj (hmg.symm.trans (ns_some_of g.inn T.g (beq_iff_eq.mp y3)))
    cases e
    clear y y1 y2 y3 y4 hmg T B D TE TW G
    exact law_end TT g hg (by omega) r0 (fun _ => rfl) (by kernel_rfl)
end Mine
theorem PySem.Challenge.cw_pe0211_01_holds : PySem.Challenge.rw_pe0211_01.Holds :=
  Mine.law_row
