import PyProof.Rows.All
import Wide.All
import OpenK.AllK
import Wide.FinOn
import PySem.Challenge.RW_pu0067_01
open PySem PySem.W PyProof.Rows
set_option Elab.async false
set_option linter.unusedVariables false
set_option linter.unusedSimpArgs false
namespace Mine
set_option maxRecDepth 100000 in
set_option maxHeartbeats 8000000 in
open_top hd for PySem.Challenge.rw_pu0067_01

/-! ## Room under the limits -/
structure Room (A : Around) (n : Nat) : Prop where
  hd : A.handled = none
  dp : A.depth + n < recursionLimit
  un : A.units + 10 * n < cLine

theorem Room.le {A : Around} {n m : Nat} (r : Room A n) (h : m ≤ n) : Room A m := ⟨r.hd, by have := r.dp; omega, by have := r.un; omega⟩
theorem Room.in1 {A : Around} {n : Nat} (r : Room A (n + 1)) : Room A.in1 n := ⟨r.hd, by have := r.dp; show A.depth + n < _; omega, by have := r.un; show A.units + 1 + 10 * n < _; omega⟩
theorem Room.deeper {A : Around} {n : Nat} {env : Env} (r : Room A (n + 1)) : Room (A.deeper env) n :=
  ⟨r.hd, by have := r.dp; show A.depth + 1 + n < _; omega, by have := r.un; show A.units + 3 + 10 * n < _; omega⟩
theorem Room.unitsLt {A : Around} {n : Nat} (r : Room A n) : A.units < cLine := by have := r.un; omega
theorem Room.depthLt {A : Around} {n : Nat} (r : Room A n) : A.depth < recursionLimit := by have := r.dp; omega

/-- what is shown with nothing known of the frames holds where more is known -/
theorem room_weaken {α : Type} {M : Model} {A A₀ : Around} {t : Sem α} {Q : α → Shared → Prop} {E : Value → Shared → Prop} {s : Shared}
    (hd : A.handled = A₀.handled) (dp : A.depth ≤ A₀.depth) (un : A.units ≤ A₀.units) (hf : A₀.frames = none) (hg : A₀.guards = none)
    (h : wpAny M A₀ t Q E s) : wpAny M A t Q E s := fun Γ p hΓ => h Γ p
  ⟨hΓ.1.trans hd, Nat.le_trans hΓ.2.1 dp, (fun l hl => by rw [hf] at hl; cases hl), (fun l hl => by rw [hg] at hl; cases hl), Nat.le_trans hΓ.2.2.2.2 un⟩

/-- the tokens only grow -/
theorem wpAny_tk {α : Type} {M : Model} {A : Around} {t : Sem α} {Q : α → Shared → Prop} {E : Value → Shared → Prop} {s : Shared} (h : wpAny M A t (fun a s' => s.toks ≤ s'.toks → Q a s') E s) : wpAny M A t Q E s :=
  wpAny_mono (wpAny_toks_of (Nat.le_refl _) h) (fun _ _ x => x.2 x.1) (fun _ _ x => x.2)

/-! ## Objects: tables and code objects are hard, the rest is soft -/
def strAt (vs : Array Value) : Bool := match (vs[1]? : Option Value) with
  | some (.str _ _) => true
  | _ => false
theorem strAt_of {vs : Array Value} {x : Str} {t : Tok} (h : vs[1]? = some (.str x t)) : strAt vs = true := by unfold strAt; rw [h]
def isTab (o : Obj) : Bool := match o.cls, o.data with
  | .none, .fields vs => !strAt vs
  | _, _ => false
def hard (o : Obj) : Bool := match o.data with
  | .fields vs => strAt vs || isTab o
  | _ => false
theorem isTab_hard {o : Obj} (h : hard o = false) : isTab o = false := by
  unfold hard at h
  split at h
  · rw [Bool.or_eq_false_iff] at h; exact h.2
  · rename_i q
    unfold isTab
    split
    · rename_i e; exact absurd e (q _)
    · rfl

theorem isTab_func {o : Obj} {fd : FuncData} (h : o.data = .func fd) : isTab o = false := by
  unfold isTab; rw [h]; cases o.cls <;> rfl
theorem isTab_code {o : Obj} {vs : Array Value} {x : Str} {t : Tok} (h : o.data = .fields vs) (h' : vs[1]? = some (.str x t)) : isTab o = false := by
  unfold isTab; rw [h]; cases o.cls <;> simp [strAt_of h']

structure Ext (h h' : Heap) : Prop where
  keep : ∀ b o, h.get? b = some o → isTab o = false → h'.get? b = some o
  there : ∀ b o, h.get? b = some o → ∃ o', h'.get? b = some o'
theorem Ext.refl (h : Heap) : Ext h h := ⟨fun _ _ e _ => e, fun _ o e => ⟨o, e⟩⟩
theorem Ext.trans {a b c : Heap} (x : Ext a b) (y : Ext b c) : Ext a c :=
  ⟨fun d o e t => y.keep d o (x.keep d o e t) t, fun d o e => let ⟨o', e'⟩ := x.there d o e; y.there d o' e'⟩
theorem Ext.of_keep {h h' : Heap} (k : ∀ b o, h.get? b = some o → h'.get? b = some o) : Ext h h' := ⟨fun b o e _ => k b o e, fun b o e => ⟨o, k b o e⟩⟩
theorem Ext.push (h : Heap) (o : Obj) : Ext h (h.push o) := .of_keep fun _ _ e => Heap.get?_push_of_some o e
theorem Ext.none {h h' : Heap} {a : Addr} (x : Ext h h') (e : h'.get? a = Option.none) : h.get? a = Option.none := by
  cases q : h.get? a with
  | none => rfl
  | some o => obtain ⟨o', e'⟩ := x.there a o q; rw [e] at e'; cases e'
theorem Ext.ns {h h' : Heap} {a : Addr} {m} (x : Ext h h') (n : h.Ns a m) : h'.Ns a m := by
  obtain ⟨o, es, ep, ho, hd, r⟩ := n
  exact ⟨o, es, ep, x.keep _ _ ho (by unfold isTab; rw [hd]; cases o.cls <;> rfl), hd, r⟩
theorem Ext.cell {h h' : Heap} {a : Addr} {v} (x : Ext h h') (n : h.IsCell a v) : h'.IsCell a v := by
  obtain ⟨o, ho, hd⟩ := n
  exact ⟨o, x.keep _ _ ho (by unfold isTab; rw [hd]; cases o.cls <;> rfl), hd⟩
theorem Ext.list {h h' : Heap} {a : Addr} {its} (x : Ext h h') (n : h.IsList a its) : h'.IsList a its := by
  obtain ⟨o, ho, hc, r⟩ := n
  exact ⟨o, x.keep _ _ ho (by unfold isTab; rw [hc]), hc, r⟩
theorem get?_size (h : Heap) : h.get? h.objs.size = Option.none := by
  cases q : h.get? h.objs.size with
  | none => rfl
  | some o => exact absurd (Heap.lt_size q) (Nat.lt_irrefl _)

/-! ## Data -/
inductive D where
  | none
  | bool (b : Bool)
  | int (i : Int)
  | flt (x : UInt64)
  | str (s : Str)
  | tup (l : List D)
  | lst (tag : Option Addr) (l : List D)
  | scr (ns : List Int)
  | hdr (l : List (Str × Str))
  | rng (a b : Int)
  | ref (a : Addr)
  | fn (fd : FuncData)

abbrev tupObj (vs : List Value) (n : Nat) : Obj := ⟨.type "tuple", Option.none, .seq vs.toArray n, #[]⟩
abbrev lstObj (vs : List Value) (n : Nat) : Obj := ⟨.type "list", Option.none, .seq vs.toArray n, #[]⟩

/-- the pairs of a header's list -/
inductive Pairs (h : Heap) : List Value → List (Str × Str) → Prop
  | nil : Pairs h [] []
  | cons {a vs l x y t u n} : h.get? a = some (tupObj [.str x t, .str y u] n) → Pairs h vs l → Pairs h (.ref a :: vs) ((x, y) :: l)

def hdrCls : Addr := 218

mutual
inductive Rep (X : List Addr) (h : Heap) : Value → D → Prop
  | none : Rep X h .none .none
  | bool (b) : Rep X h (.bool b) (.bool b)
  | int (i t) : Rep X h (.int i t) (.int i)
  | flt (x t) (ht : 0 < t) : Rep X h (.float x t) (.flt x)
  | str (x t) : Rep X h (.str x t) (.str x)
  | tup {a vs n ds} : h.get? a = some (tupObj vs n) → Reps X h vs ds → Rep X h (.ref a) (.tup ds)
  | lst {a vs n tag ds} : h.get? a = some (lstObj vs n) → (∀ x, tag = some x → x = a) → (tag = Option.none → a ∉ X) → Reps X h vs ds → Rep X h (.ref a) (.lst tag ds)
  | scr {a vs ns} : h.IsList a vs.toArray → IntsAre vs ns → a ∉ X → Rep X h (.ref a) (.scr ns)
  | hdr {a d l vs n es ep ps} : h.get? a = some ⟨.ref hdrCls, some d, .plain, #[]⟩ → h.get? d = some (dictOf es ep) → getL "_headers" es = some (some (.ref l)) →
      (∀ nm : Str, nm ≠ "_headers" → getL nm es = some Option.none) → h.get? l = some (lstObj vs n) → l ∉ X → Pairs h vs ps → Rep X h (.ref a) (.hdr ps)
  | rng {r a b t u v} : h.get? r = some ⟨.type "range", Option.none, .fields #[.int a t, .int b u, .int 1 v], #[]⟩ → Rep X h (.ref r) (.rng a b)
  | ref (a) : Rep X h (.ref a) (.ref a)
  | fn {a o fd cd co vs t} : h.get? a = some o → o.data = .func fd → fd.code = .ref cd → h.get? cd = some co → co.data = .fields vs → vs[1]? = some (.str fd.qualname t) → Rep X h (.ref a) (.fn fd)
inductive Reps (X : List Addr) (h : Heap) : List Value → List D → Prop
  | nil : Reps X h [] []
  | cons {v vs d ds} : Rep X h v d → Reps X h vs ds → Reps X h (v :: vs) (d :: ds)
end

theorem Reps.length {X : List Addr} {h : Heap} : ∀ {vs : List Value} {ds : List D}, Reps X h vs ds → vs.length = ds.length
  | _, _, .nil => rfl
  | _, _, .cons _ r => by rw [List.length_cons, List.length_cons, r.length]

theorem Rep.isFlt {X : List Addr} {h : Heap} {v : Value} {x : UInt64} (r : Rep X h v (.flt x)) : ∃ t, v = .float x t ∧ 0 < t := by cases r; exact ⟨_, rfl, ‹_›⟩
theorem Rep.isInt {X : List Addr} {h : Heap} {v : Value} {x : Int} (r : Rep X h v (.int x)) : ∃ t, v = .int x t := by cases r; exact ⟨_, rfl⟩
theorem Rep.isStr {X : List Addr} {h : Heap} {v : Value} {x : Str} (r : Rep X h v (.str x)) : ∃ t, v = .str x t := by cases r; exact ⟨_, rfl⟩
theorem Rep.isBool {X : List Addr} {h : Heap} {v : Value} {x : Bool} (r : Rep X h v (.bool x)) : v = .bool x := by cases r; rfl
theorem Rep.isLst {X : List Addr} {h : Heap} {v : Value} {t : Option Addr} {ds : List D} (r : Rep X h v (.lst t ds)) : ∃ a vs n, v = .ref a ∧ h.get? a = some (lstObj vs n) ∧ (∀ x, t = some x → x = a) ∧ (t = Option.none → a ∉ X) ∧ Reps X h vs ds := by
  cases r with | lst e t q r => exact ⟨_, _, _, rfl, e, t, q, r⟩
theorem Rep.isTup {X : List Addr} {h : Heap} {v : Value} {ds : List D} (r : Rep X h v (.tup ds)) : ∃ a vs n, v = .ref a ∧ h.get? a = some (tupObj vs n) ∧ Reps X h vs ds := by
  cases r with | tup e r => exact ⟨_, _, _, rfl, e, r⟩
theorem Rep.isScr {X : List Addr} {h : Heap} {v : Value} {ns : List Int} (r : Rep X h v (.scr ns)) : ∃ a vs, v = .ref a ∧ h.IsList a vs.toArray ∧ IntsAre vs ns ∧ a ∉ X := by
  cases r with | scr l i q => exact ⟨_, _, rfl, l, i, q⟩

theorem Pairs.ext {h h' : Heap} (x : Ext h h') : ∀ {vs l}, Pairs h vs l → Pairs h' vs l
  | _, _, .nil => .nil
  | _, _, .cons e r => .cons (x.keep _ _ e rfl) (Pairs.ext x r)

mutual
theorem Rep.ext {X : List Addr} {h h' : Heap} (x : Ext h h') : ∀ {v d}, Rep X h v d → Rep X h' v d
  | _, _, .none => .none
  | _, _, .bool b => .bool b
  | _, _, .int i t => .int i t
  | _, _, .flt y t ht => .flt y t ht
  | _, _, .str y t => .str y t
  | _, _, .tup e r => .tup (x.keep _ _ e rfl) (r.ext x)
  | _, _, .lst e t q r => .lst (x.keep _ _ e rfl) t q (r.ext x)
  | _, _, .scr l i q => .scr (x.list l) i q
  | _, _, .hdr e1 e2 e3 e4 e5 q p => .hdr (x.keep _ _ e1 rfl) (x.keep _ _ e2 rfl) e3 e4 (x.keep _ _ e5 rfl) q (p.ext x)
  | _, _, .rng e => .rng (x.keep _ _ e rfl)
  | _, _, .ref a => .ref a
  | _, _, .fn e1 e2 e3 e4 e5 e6 => .fn (x.keep _ _ e1 (isTab_func e2)) e2 e3 (x.keep _ _ e4 (isTab_code e5 e6)) e5 e6
theorem Reps.ext {X : List Addr} {h h' : Heap} (x : Ext h h') : ∀ {vs ds}, Reps X h vs ds → Reps X h' vs ds
  | _, _, .nil => .nil
  | _, _, .cons a r => .cons (a.ext x) (r.ext x)
end

mutual
theorem Rep.fewer {X Y : List Addr} {h : Heap} (x : ∀ a ∈ Y, a ∈ X) : ∀ {v d}, Rep X h v d → Rep Y h v d
  | _, _, .none => .none
  | _, _, .bool b => .bool b
  | _, _, .int i t => .int i t
  | _, _, .flt y t ht => .flt y t ht
  | _, _, .str y t => .str y t
  | _, _, .tup e r => .tup e (r.fewer x)
  | _, _, .lst e t q r => .lst e t (fun z m => q z (x _ m)) (r.fewer x)
  | _, _, .scr l i q => .scr l i (fun m => q (x _ m))
  | _, _, .hdr e1 e2 e3 e4 e5 q p => .hdr e1 e2 e3 e4 e5 (fun m => q (x _ m)) p
  | _, _, .rng e => .rng e
  | _, _, .ref a => .ref a
  | _, _, .fn e1 e2 e3 e4 e5 e6 => .fn e1 e2 e3 e4 e5 e6
theorem Reps.fewer {X Y : List Addr} {h : Heap} (x : ∀ a ∈ Y, a ∈ X) : ∀ {vs ds}, Reps X h vs ds → Reps Y h vs ds
  | _, _, .nil => .nil
  | _, _, .cons a r => .cons (a.fewer x) (r.fewer x)
end

mutual
/-- an address that does not stand yet is avoided -/
theorem Rep.more {X : List Addr} {h : Heap} {b : Addr} (x : h.get? b = Option.none) : ∀ {v d}, Rep X h v d → Rep (b :: X) h v d
  | _, _, .none => .none
  | _, _, .bool b => .bool b
  | _, _, .int i t => .int i t
  | _, _, .flt y t ht => .flt y t ht
  | _, _, .str y t => .str y t
  | _, _, .tup e r => .tup e (r.more x)
  | _, _, .lst e t q r => .lst e t (fun y m => (List.mem_cons.mp m).elim (fun z => by rw [z, x] at e; cases e) (q y)) (r.more x)
  | _, _, .scr l i q => .scr l i (fun m => (List.mem_cons.mp m).elim (fun z => by obtain ⟨o, ho, _⟩ := l; rw [z, x] at ho; cases ho) q)
  | _, _, .hdr e1 e2 e3 e4 e5 q p => .hdr e1 e2 e3 e4 e5 (fun m => (List.mem_cons.mp m).elim (fun z => by rw [z, x] at e5; cases e5) q) p
  | _, _, .rng e => .rng e
  | _, _, .ref a => .ref a
  | _, _, .fn e1 e2 e3 e4 e5 e6 => .fn e1 e2 e3 e4 e5 e6
theorem Reps.more {X : List Addr} {h : Heap} {b : Addr} (x : h.get? b = Option.none) : ∀ {vs ds}, Reps X h vs ds → Reps (b :: X) h vs ds
  | _, _, .nil => .nil
  | _, _, .cons a r => .cons (a.more x) (r.more x)
end

/-! a change at one place that no datum looks at -/
def harmless (o : Obj) : Prop := match o.data with
  | .cell _ => True
  | .fields vs => o.cls ≠ .type "range" ∧ strAt vs = false
  | .dict es _ => es.any (·.key.isStr "_headers") = false
  | _ => False

theorem harmless_tup {vs : List Value} {n : Nat} (q : harmless (tupObj vs n)) : False := q
theorem harmless_lst {vs : List Value} {n : Nat} (q : harmless (lstObj vs n)) : False := q

theorem Pairs.chg {h h' : Heap} {a : Addr} (hs : Heap.ExtBut a h h') (hb : ∀ o, h.get? a = some o → harmless o) : ∀ {vs l}, Pairs h vs l → Pairs h' vs l
  | _, _, .nil => .nil
  | _, _, .cons e r => .cons (hs _ _ (fun q => by rw [q] at e; exact harmless_tup (hb _ e)) e) (Pairs.chg hs hb r)

theorem getL_any {nm : Str} {es : List DictEntry} {v : Value} (h : getL nm es = some (some v)) : es.any (·.key.isStr nm) = true := by
  unfold getL at h
  split at h
  · rename_i e he
    exact List.any_eq_true.mpr ⟨e, List.mem_of_find?_eq_some he, List.find?_some (p := fun x : DictEntry => x.key.isStr nm) he⟩
  · split at h <;> cases h

mutual
theorem Rep.chg {X : List Addr} {h h' : Heap} {a : Addr} (hs : Heap.ExtBut a h h') (hb : ∀ o, h.get? a = some o → harmless o) : ∀ {v d}, Rep X h v d → Rep X h' v d
  | _, _, .none => .none
  | _, _, .bool b => .bool b
  | _, _, .int i t => .int i t
  | _, _, .flt y t ht => .flt y t ht
  | _, _, .str y t => .str y t
  | _, _, .tup e r => .tup (hs _ _ (fun q => by rw [q] at e; exact harmless_tup (hb _ e)) e) (r.chg hs hb)
  | _, _, .lst e t z r => .lst (hs _ _ (fun q => by rw [q] at e; exact harmless_lst (hb _ e)) e) t z (r.chg hs hb)
  | _, _, .scr l i z => .scr (by
      obtain ⟨o, ho, hc, n, hd⟩ := l
      refine ⟨o, hs _ _ (fun q => ?_) ho, hc, n, hd⟩
      rw [q] at ho
      have y := hb _ ho
      unfold harmless at y; rw [hd] at y; exact y) i z
  | _, _, .hdr e1 e2 e3 e4 e5 z p => .hdr
      (hs _ _ (fun q => by
        rw [q] at e1
        exact hb _ e1) e1)
      (hs _ _ (fun q => by
        rw [q] at e2
        have z : (Array.any _ _ _ _ : Bool) = false := hb _ e2
        have y := getL_any e3
        rw [List.any_toArray, y] at z
        cases z) e2) e3 e4 (hs _ _ (fun q => by rw [q] at e5; exact harmless_lst (hb _ e5)) e5) z (p.chg hs hb)
  | _, _, .rng e => .rng (hs _ _ (fun q => by
      rw [q] at e
      exact (hb _ e).1 rfl) e)
  | _, _, .ref a => .ref a
  | _, _, .fn e1 e2 e3 e4 e5 e6 => .fn (hs _ _ (fun q => by rw [q] at e1; have z := hb _ e1; unfold harmless at z; rw [e2] at z; exact z) e1) e2 e3 (hs _ _ (fun q => by rw [q] at e4; have z := hb _ e4; unfold harmless at z; rw [e5] at z; have y := z.2; rw [strAt_of e6] at y; cases y) e4) e5 e6
theorem Reps.chg {X : List Addr} {h h' : Heap} {a : Addr} (hs : Heap.ExtBut a h h') (hb : ∀ o, h.get? a = some o → harmless o) : ∀ {vs ds}, Reps X h vs ds → Reps X h' vs ds
  | _, _, .nil => .nil
  | _, _, .cons x r => .cons (x.chg hs hb) (r.chg hs hb)
end

/-! no list inside is told to lie at a -/
mutual
def D.off (a : Addr) : D → Bool
  | .tup l => D.offs a l
  | .lst t l => (t != some a) && D.offs a l
  | _ => true
def D.offs (a : Addr) : List D → Bool
  | [] => true
  | d :: ds => d.off a && D.offs a ds
end
theorem offs_all (a : Addr) : ∀ l : List D, D.offs a l = l.all (D.off a)
  | [] => by simp [D.offs]
  | d :: ds => by rw [D.offs, offs_all a ds, List.all_cons]

mutual
/-- what does not stand yet is not inside -/
theorem Rep.off {X : List Addr} {h : Heap} {b : Addr} (x : h.get? b = Option.none) : ∀ {v d}, Rep X h v d → d.off b = true
  | _, _, .none => by simp [D.off]
  | _, _, .bool b => by simp [D.off]
  | _, _, .int i t => by simp [D.off]
  | _, _, .flt y t _ => by simp [D.off]
  | _, _, .str y t => by simp [D.off]
  | _, _, .tup e r => by rw [D.off]; exact r.off x
  | _, _, .lst e t q r => by
    rw [D.off, r.off x, Bool.and_true]
    simp only [bne_iff_ne, ne_eq]
    intro z
    rw [← t _ z, x] at e
    cases e
  | _, _, .scr l i q => by simp [D.off]
  | _, _, .hdr e1 e2 e3 e4 e5 q p => by simp [D.off]
  | _, _, .rng e => by simp [D.off]
  | _, _, .ref a => by simp [D.off]
  | _, _, .fn _ _ _ _ _ _ => by simp [D.off]
theorem Reps.off {X : List Addr} {h : Heap} {b : Addr} (x : h.get? b = Option.none) : ∀ {vs ds}, Reps X h vs ds → D.offs b ds = true
  | _, _, .nil => by simp [D.offs]
  | _, _, .cons a r => by rw [D.offs, a.off x, r.off x]; rfl
end

theorem Pairs.put {h h' : Heap} {a : Addr} {vs₀ : List Value} {n₀ : Nat} (ha : h.get? a = some (lstObj vs₀ n₀)) (hs : Heap.ExtBut a h h') : ∀ {vs l}, Pairs h vs l → Pairs h' vs l
  | _, _, .nil => .nil
  | _, _, .cons e r => .cons (hs _ _ (fun q => by rw [q, ha] at e; simp at e) e) (Pairs.put ha hs r)

mutual
/-- a list that is avoided is changed -/
theorem Rep.put {X : List Addr} {h h' : Heap} {a : Addr} {vs₀ : List Value} {n₀ : Nat} (ha : h.get? a = some (lstObj vs₀ n₀)) (hX : a ∈ X) (hs : Heap.ExtBut a h h') : ∀ {v d}, Rep X h v d → d.off a = true → Rep X h' v d
  | _, _, .none, _ => .none
  | _, _, .bool b, _ => .bool b
  | _, _, .int i t, _ => .int i t
  | _, _, .flt y t ht, _ => .flt y t ht
  | _, _, .str y t, _ => .str y t
  | _, _, .tup e r, z => .tup (hs _ _ (fun q => by rw [q, ha] at e; simp at e) e) (r.put ha hX hs (by rw [D.off] at z; exact z))
  | _, _, .lst (tag := tag) e t y r, z => by
    rw [D.off, Bool.and_eq_true] at z
    refine .lst (hs _ _ (fun q => ?_) e) t y (r.put ha hX hs z.2)
    subst q
    cases tag with
    | none => exact y rfl hX
    | some x => have := t x rfl; subst this; simp at z
  | _, _, .scr l i y, _ => .scr (by
      obtain ⟨o, ho, r⟩ := l
      exact ⟨o, hs _ _ (fun q => by subst q; exact y hX) ho, r⟩) i y
  | _, _, .hdr e1 e2 e3 e4 e5 y p, _ => .hdr (hs _ _ (fun q => by rw [q, ha] at e1; simp at e1) e1) (hs _ _ (fun q => by rw [q, ha] at e2; simp at e2) e2) e3 e4
      (hs _ _ (fun q => by subst q; exact y hX) e5) y (p.put ha hs)
  | _, _, .rng e, _ => .rng (hs _ _ (fun q => by rw [q, ha] at e; simp at e) e)
  | _, _, .ref a, _ => .ref a
  | _, _, .fn e1 e2 e3 e4 e5 e6, _ => .fn (hs _ _ (fun q => by rw [q, ha] at e1; cases e1; cases e2) e1) e2 e3 (hs _ _ (fun q => by rw [q, ha] at e4; cases e4; cases e5) e4) e5 e6
theorem Reps.put {X : List Addr} {h h' : Heap} {a : Addr} {vs₀ : List Value} {n₀ : Nat} (ha : h.get? a = some (lstObj vs₀ n₀)) (hX : a ∈ X) (hs : Heap.ExtBut a h h') : ∀ {vs ds}, Reps X h vs ds → D.offs a ds = true → Reps X h' vs ds
  | _, _, .nil, _ => .nil
  | _, _, .cons x r, z => by
    rw [D.offs, Bool.and_eq_true] at z
    exact .cons (x.put ha hX hs z.1) (r.put ha hX hs z.2)
end

/-! ## What stands throughout the law's call -/
structure TabSpec where
  P : Addr
  pos : Pos
  q : Str
def TabOk (h : Heap) (t : TabSpec) : Prop := ∃ ps, h.get? t.P = some (tabObj ps) ∧ (ps = #[] ∨ ∃ c' o vs tk, ps = #[rawInt t.pos.line, rawInt t.pos.col, .ref c'] ∧
  h.get? c' = some o ∧ o.data = .fields vs ∧ vs[1]? = some (.str t.q tk))

structure Cx where
  prog : Program
  w : World
  B : Heap
  K : Frag
  mg : Str → Option Value
  mb : Str → Option Value
  tabs : List TabSpec
  /-- lists that the data at hand avoid -/
  X : List Addr
  KB : K.In B
  GB : B.Ns mainGlobals mg
  BB : B.Ns builtinsNs mb
  blt : ∀ x : Str, x ≠ "__name__" → mb x = bootBuiltins x
  lim : B.NoLimit
  dig : ∃ mc, B.Ns cStatics mc ∧ mc "sys.int_max_str_digits" = none
  book : NoneBooked B

abbrev Cx.M (c : Cx) : Model := model c.prog c.w

structure Inv (c : Cx) (h : Heap) (tk : Nat) : Prop where
  pos : 0 < tk
  base : ∀ b o, c.B.get? b = some o → h.get? b = some o
  tabs : ∀ t ∈ c.tabs, TabOk h t
  av : ∀ x ∈ c.X, ∃ vs n, h.get? x = some (lstObj vs n)

theorem TabOk.keeps {h h' : Heap} {t : TabSpec} (x : TabOk h t) (k : ∀ b o, h.get? b = some o → hard o = true → h'.get? b = some o) : TabOk h' t := by
  obtain ⟨ps, hp, r⟩ := x
  have hd : hard (tabObj ps) = true := by
    rcases r with r | ⟨c', o, vs, tk, e1, _⟩
    · subst r; rfl
    · subst e1; rfl
  refine ⟨ps, k _ _ hp hd, ?_⟩
  rcases r with r | ⟨c', o, vs, tk, e1, e2, e4, e5⟩
  · exact .inl r
  · exact .inr ⟨c', o, vs, tk, e1, k _ _ e2 (by unfold hard; rw [e4]; simp [strAt_of e5]), e4, e5⟩
theorem Inv.keeps {c : Cx} {h h' : Heap} {tk tk' : Nat} (i : Inv c h tk) (k : ∀ b o, h.get? b = some o → h'.get? b = some o) (ht : tk ≤ tk' := by first | exact Nat.le_refl _ | exact Nat.le_succ _ | assumption | omega) : Inv c h' tk' :=
  ⟨Nat.lt_of_lt_of_le i.pos ht, fun b o e => k b o (i.base b o e), fun t ht => (i.tabs t ht).keeps fun b o e _ => k b o e, fun x hx => let ⟨vs, n, e⟩ := i.av x hx; ⟨vs, n, k _ _ e⟩⟩
theorem Inv.push {c : Cx} {h : Heap} {tk : Nat} (i : Inv c h tk) (o : Obj) : Inv c (h.push o) tk := i.keeps fun _ _ e => Heap.get?_push_of_some o e
/-- a change at one place: soft, and not of the base -/
theorem Inv.chg {c : Cx} {h h' : Heap} {a : Addr} {tk tk' : Nat} (i : Inv c h tk) (hs : Heap.ExtBut a h h') (hb : c.B.get? a = none) (hh : ∀ o, h.get? a = some o → hard o = false) (ht : a ∈ c.X → ∃ vs n, h'.get? a = some (lstObj vs n)) (htk : tk ≤ tk' := by first | exact Nat.le_refl _ | exact Nat.le_succ _ | assumption | omega) : Inv c h' tk' :=
  ⟨Nat.lt_of_lt_of_le i.pos htk, fun b o e => hs b o (fun q => by rw [q, hb] at e; cases e) (i.base b o e),
   fun t ht => (i.tabs t ht).keeps fun b o e q => hs b o (fun z => by rw [z] at e; rw [hh o e] at q; cases q) e,
   fun x hx => if q : x = a then q ▸ ht (q ▸ hx) else let ⟨vs, n, e⟩ := i.av x hx; ⟨vs, n, hs x _ q e⟩⟩
theorem Inv.new {c : Cx} {h : Heap} {tk : Nat} (i : Inv c h tk) : h.objs.size ∉ c.X := fun m => let ⟨_, _, e⟩ := i.av _ m; Nat.lt_irrefl _ (Heap.lt_size e)
theorem Inv.ns {c : Cx} {h : Heap} {tk : Nat} {a : Addr} {m} (i : Inv c h tk) (n : c.B.Ns a m) : h.Ns a m := n.keeps i.base
theorem Inv.K {c : Cx} {h : Heap} {tk : Nat} (i : Inv c h tk) : c.K.In h := fun a o e => i.base a o (c.KB a o e)
theorem Inv.fresh {c : Cx} {h : Heap} {tk : Nat} (i : Inv c h tk) {a : Addr} (ha : h.get? a = none) : c.B.get? a = none := by
  cases q : c.B.get? a with
  | none => rfl
  | some o => rw [i.base a o q] at ha; cases ha

/-- a step that changes nothing that stood -/
structure Stp (c : Cx) (s s' : Shared) : Prop where
  inv : Inv c s'.heap s'.toks
  ext : Ext s.heap s'.heap
  sh : s' = { s with heap := s'.heap, toks := s'.toks }
theorem Stp.refl {c : Cx} {s : Shared} (i : Inv c s.heap s.toks) : Stp c s s := ⟨i, .refl _, rfl⟩
theorem Stp.trans {c : Cx} {a b d : Shared} (x : Stp c a b) (y : Stp c b d) : Stp c a d := ⟨y.inv, x.ext.trans y.ext, by rw [y.sh, x.sh]⟩
theorem Stp.tok {c : Cx} {s : Shared} (i : Inv c s.heap s.toks) (t : Nat) (ht : s.toks ≤ t := by first | exact Nat.le_refl _ | exact Nat.le_succ _ | assumption | omega) : Stp c s { s with toks := t } := ⟨i.keeps (fun _ _ e => e) ht, .refl _, rfl⟩
theorem Stp.keep {c : Cx} {s : Shared} {h' : Heap} {t : Nat} (i : Inv c s.heap s.toks) (k : ∀ b o, s.heap.get? b = some o → h'.get? b = some o) (ht : s.toks ≤ t := by first | exact Nat.le_refl _ | exact Nat.le_succ _ | assumption | omega) : Stp c s { s with heap := h', toks := t } :=
  ⟨i.keeps k ht, .of_keep k, rfl⟩
theorem Stp.push {c : Cx} {s : Shared} (i : Inv c s.heap s.toks) (o : Obj) : Stp c s { s with heap := s.heap.push o } := ⟨i.push o, .push _ _, rfl⟩

abbrev Never : Value → Shared → Prop := fun _ _ => False

/-! ## Names -/
abbrev Vars := List (Str × D)

structure St (X : List Addr) (env : Env) (ρ : Vars) (h : Heap) : Prop where
  loc : ∃ m, h.Ns env.locals m ∧ m "_headers" = none ∧ ∀ x d, ρ.lookup x = some d → env.kindOf x = some .local → ∃ v, m x = some v ∧ Rep X h v d
  cel : ∀ x d, ρ.lookup x = some d → (env.kindOf x = some .cell ∨ env.kindOf x = some .free) → ∃ a v, env.cells.lookup x = some a ∧ h.IsCell a (some v) ∧ Rep X h v d
  own : ∀ x a, env.cells.lookup x = some a → ∃ v, h.IsCell a v
  kinds : ∀ x d, ρ.lookup x = some d → env.kindOf x = some .local ∨ env.kindOf x = some .cell ∨ env.kindOf x = some .free

theorem St.ext {X : List Addr} {env : Env} {ρ : Vars} {h h' : Heap} (S : St X env ρ h) (x : Ext h h') : St X env ρ h' := by
  obtain ⟨⟨m, hn, hm, hl⟩, hc, ho, hk⟩ := S
  refine ⟨⟨m, x.ns hn, hm, fun y d e k => ?_⟩, fun y d e k => ?_, fun y a e => ?_, hk⟩
  · obtain ⟨v, h1, h2⟩ := hl y d e k
    exact ⟨v, h1, h2.ext x⟩
  · obtain ⟨a, v, h1, h2, h3⟩ := hc y d e k
    exact ⟨a, v, h1, x.cell h2, h3.ext x⟩
  · obtain ⟨v, h1⟩ := ho y a e
    exact ⟨v, x.cell h1⟩
/-- fewer names -/
theorem St.less {X : List Addr} {env : Env} {ρ ρ' : Vars} {h : Heap} (S : St X env ρ h) (x : ∀ y d, ρ'.lookup y = some d → ρ.lookup y = some d) : St X env ρ' h := by
  obtain ⟨⟨m, hn, hm, hl⟩, hc, ho, hk⟩ := S
  exact ⟨⟨m, hn, hm, fun y d e k => hl y d (x y d e) k⟩, fun y d e k => hc y d (x y d e) k, ho, fun y d e => hk y d (x y d e)⟩

theorem ns_harmless {h : Heap} {a : Addr} {m} (n : h.Ns a m) (hm : m "_headers" = none) : ∀ o, h.get? a = some o → harmless o := by
  obtain ⟨o, es, ep, ho, hd, hk, hf⟩ := n
  intro o' e
  rw [ho] at e; cases e
  unfold harmless
  rw [hd]
  have := hf "_headers"
  rw [hm] at this
  unfold nsFind findBy at this
  rw [Option.map_eq_none_iff] at this
  show (es.any fun x => x.key.isStr (Str.ofString "_headers")) = false
  rw [Array.any_eq_false']
  intro x hx
  simpa using (Array.find?_eq_none.mp this) x hx
theorem ns_soft {h : Heap} {a : Addr} {m} (n : h.Ns a m) : ∀ o, h.get? a = some o → hard o = false := by
  obtain ⟨o, es, ep, ho, hd, hk, hf⟩ := n
  intro o' e
  rw [ho] at e; cases e
  unfold hard
  rw [hd]
theorem cell_harmless {h : Heap} {a : Addr} {v} (n : h.IsCell a v) : ∀ o, h.get? a = some o → harmless o := by
  obtain ⟨o, ho, hd⟩ := n
  intro o' e
  rw [ho] at e; cases e
  unfold harmless
  rw [hd]; trivial
theorem cell_soft {h : Heap} {a : Addr} {v} (n : h.IsCell a v) : ∀ o, h.get? a = some o → hard o = false := by
  obtain ⟨o, ho, hd⟩ := n
  intro o' e
  rw [ho] at e; cases e
  unfold hard
  rw [hd]
theorem cell_ne_ns {h : Heap} {a b : Addr} {v m} (n : h.IsCell a v) (n' : h.Ns b m) : a ≠ b := by
  rintro rfl
  obtain ⟨o, ho, hd⟩ := n
  obtain ⟨o', es, ep, ho', hd', _⟩ := n'
  rw [ho] at ho'; cases ho'
  rw [hd] at hd'; cases hd'

/-- a value bound to a local name -/
theorem St.set_local {X : List Addr} {env : Env} {ρ : Vars} {h h' : Heap} {x : Str} {v : Value} {d : D} {m : Str → Option Value} (S : St X env ρ h) (hm : h.Ns env.locals m)
    (hn : h'.Ns env.locals (fun y => if y = x then some v else m y)) (hs : Heap.SameBut env.locals h h') (hk : env.kindOf x = some .local) (hx : x ≠ "_headers") (r : Rep X h v d) : St X env ((x, d) :: ρ) h' := by
  obtain ⟨⟨m₀, hn₀, hm₀, hl⟩, hc, ho, hk'⟩ := S
  have e0 : m₀ = m := by
    obtain ⟨o, es, ep, e1, e2, _, e3⟩ := hn₀
    obtain ⟨o', es', ep', f1, f2, _, f3⟩ := hm
    rw [e1] at f1; cases f1
    rw [e2] at f2; cases f2
    funext y; rw [← e3, ← f3]
  subst e0
  have hb : ∀ o, h.get? env.locals = some o → harmless o := ns_harmless hn₀ hm₀
  have look : ∀ y d', ((x, d) :: ρ).lookup y = some d' → (y = x ∧ d' = d) ∨ (y ≠ x ∧ ρ.lookup y = some d') := by
    intro y d' e
    rw [List.lookup_cons] at e
    by_cases q : y = x
    · subst q; rw [beq_self_eq_true] at e; cases e; exact .inl ⟨rfl, rfl⟩
    · rw [beq_eq_false_iff_ne.mpr q] at e; exact .inr ⟨q, e⟩
  refine ⟨⟨_, hn, by simp [Ne.symm hx, hm₀], fun y d' e k => ?_⟩, fun y d' e k => ?_, fun y a e => ?_, fun y d' e => ?_⟩
  · rcases look y d' e with ⟨rfl, rfl⟩ | ⟨q, e'⟩
    · exact ⟨v, by simp, r.chg hs.extBut hb⟩
    · obtain ⟨u, h1, h2⟩ := hl y d' e' k
      exact ⟨u, by simp [q, h1], h2.chg hs.extBut hb⟩
  · rcases look y d' e with ⟨rfl, rfl⟩ | ⟨q, e'⟩
    · rw [hk] at k; rcases k with k | k <;> cases k
    · obtain ⟨a, u, h1, h2, h3⟩ := hc y d' e' k
      exact ⟨a, u, h1, h2.sameBut hs (cell_ne_ns h2 hn₀), h3.chg hs.extBut hb⟩
  · obtain ⟨u, h1⟩ := ho y a e
    exact ⟨u, h1.sameBut hs (cell_ne_ns h1 hn₀)⟩
  · rcases look y d' e with ⟨rfl, rfl⟩ | ⟨q, e'⟩
    · exact .inl hk
    · exact hk' y d' e'

def Apart (env : Env) : Prop := ∀ x y a, env.cells.lookup x = some a → env.cells.lookup y = some a → x = y

/-- a value bound to a cell's name -/
theorem St.set_cell {X : List Addr} {env : Env} {ρ : Vars} {h h' : Heap} {x : Str} {v : Value} {d : D} {a : Addr} (S : St X env ρ h) (hc' : env.cells.lookup x = some a)
    (hn : h'.IsCell a (some v)) (hs : Heap.SameBut a h h') (hk : env.kindOf x = some .cell) (ap : Apart env) (r : Rep X h v d) : St X env ((x, d) :: ρ) h' := by
  obtain ⟨⟨m₀, hn₀, hm₀, hl⟩, hc, ho, hk'⟩ := S
  obtain ⟨v₀, hv₀⟩ := ho x a hc'
  have hb : ∀ o, h.get? a = some o → harmless o := cell_harmless hv₀
  have hne := cell_ne_ns hv₀ hn₀
  have look : ∀ y d', ((x, d) :: ρ).lookup y = some d' → (y = x ∧ d' = d) ∨ (y ≠ x ∧ ρ.lookup y = some d') := by
    intro y d' e
    rw [List.lookup_cons] at e
    by_cases q : y = x
    · subst q; rw [beq_self_eq_true] at e; cases e; exact .inl ⟨rfl, rfl⟩
    · rw [beq_eq_false_iff_ne.mpr q] at e; exact .inr ⟨q, e⟩
  refine ⟨⟨m₀, hn₀.sameBut hs (Ne.symm hne), hm₀, fun y d' e k => ?_⟩, fun y d' e k => ?_, fun y b e => ?_, fun y d' e => ?_⟩
  · rcases look y d' e with ⟨rfl, rfl⟩ | ⟨q, e'⟩
    · rw [hk] at k; cases k
    · obtain ⟨u, h1, h2⟩ := hl y d' e' k
      exact ⟨u, h1, h2.chg hs.extBut hb⟩
  · rcases look y d' e with ⟨rfl, rfl⟩ | ⟨q, e'⟩
    · exact ⟨a, v, hc', hn, r.chg hs.extBut hb⟩
    · obtain ⟨b, u, h1, h2, h3⟩ := hc y d' e' k
      exact ⟨b, u, h1, h2.sameBut hs (fun z => q (ap y x a (z ▸ h1) hc')), h3.chg hs.extBut hb⟩
  · by_cases q : b = a
    · subst q; exact ⟨_, hn⟩
    · obtain ⟨u, h1⟩ := ho y b e
      exact ⟨u, h1.sameBut hs q⟩
  · rcases look y d' e with ⟨rfl, rfl⟩ | ⟨q, e'⟩
    · exact .inr (.inl hk)
    · exact hk' y d' e'

/-! ## Judgements -/
structure EnvOk (env : Env) : Prop where
  kind : env.scope.kind = .function
  glob : env.globals = mainGlobals
  blt : env.builtins = builtinsNs

/-- the tree ends with a value that stands for d -/
def Gives (c : Cx) (A : Around) (t : Sem Value) (d : D) (s : Shared) : Prop := wpAny c.M A t (fun v s' => Stp c s s' ∧ Rep c.X s'.heap v d) Never s

def Ev (c : Cx) (env : Env) (n : Nat) (ρ : Vars) (e : PySem.Expr) (d : D) : Prop :=
  ∀ A s, Room A n → Inv c s.heap s.toks → St c.X env ρ s.heap → Gives c A (eval e env) d s

theorem Gives.use {c : Cx} {A : Around} {t : Sem Value} {d : D} {s : Shared} {Q : Value → Shared → Prop} {E : Value → Shared → Prop} (g : Gives c A t d s)
    (h : ∀ v s', Stp c s s' → Rep c.X s'.heap v d → Q v s') : wpAny c.M A t Q E s := wpAny_mono g (fun v s' x => h v s' x.1 x.2) fun _ _ x => x.elim
theorem Gives.mk {c : Cx} {A : Around} {t : Sem Value} {d : D} {s : Shared} (h : wpAny c.M A t (fun v s' => Stp c s s' ∧ Rep c.X s'.heap v d) Never s) : Gives c A t d s := h
theorem Gives.after {c : Cx} {A : Around} {t : Sem Value} {d : D} {s s₁ : Shared} (x : Stp c s s₁) (g : Gives c A t d s₁) : wpAny c.M A t (fun v s' => Stp c s s' ∧ Rep c.X s'.heap v d) Never s₁ :=
  g.use fun _ _ y r => ⟨x.trans y, r⟩

theorem Ev.name {c : Cx} {env : Env} {n : Nat} {ρ : Vars} {x : Str} {pos : Pos} {d : D} (K : EnvOk env) (h : ρ.lookup x = some d) (hd : (x == ("__debug__" : Str)) = false := by decide)
    (hn : (x == ("__classdict__" : Str)) = false := by decide) : Ev c env n ρ (.Name x pos) d := by
  intro A s R I S
  refine wpAny_Name ?_ hd
  rcases S.kinds x d h with k | k | k
  · obtain ⟨m, h1, _, h2⟩ := S.loc
    obtain ⟨v, h3, h4⟩ := h2 x d h k
    exact wpAny_loadName_local K.kind k h1 h3 ⟨.refl I, h4⟩
  · obtain ⟨a, v, h1, h2, h3⟩ := S.cel x d h (.inl k)
    exact wpAny_loadName_cell K.kind k h1 h2 ⟨.refl I, h3⟩
  · obtain ⟨a, v, h1, h2, h3⟩ := S.cel x d h (.inr k)
    exact wpAny_loadName_free K.kind k h1 h2 ⟨.refl I, h3⟩ hn

theorem Ev.int {c : Cx} {env : Env} {n : Nat} {ρ : Vars} {i : Int} {k : Nat} {pos : Pos} : Ev c env n ρ (.Constant (.int i) k pos) (.int i) :=
  fun _ s _ I _ => wpAny_Constant_int ⟨.tok I _, .int _ _⟩
theorem Ev.str {c : Cx} {env : Env} {n : Nat} {ρ : Vars} {x : Str} {k : Nat} {pos : Pos} : Ev c env n ρ (.Constant (.str x) k pos) (.str x) :=
  fun _ s _ I _ => wpAny_Constant_str ⟨.tok I _, .str _ _⟩
theorem Ev.flt {c : Cx} {env : Env} {n : Nat} {ρ : Vars} {x : UInt64} {k : Nat} {pos : Pos} : Ev c env n ρ (.Constant (.float x) k pos) (.flt x) :=
  fun _ s _ I _ => (fun Γ p _ => ⟨Stp.tok I _, .flt _ _ I.pos⟩)
theorem Ev.none {c : Cx} {env : Env} {n : Nat} {ρ : Vars} {k : Nat} {pos : Pos} : Ev c env n ρ (.Constant .none k pos) .none :=
  fun _ s _ I _ => wpAny_Constant_none ⟨.refl I, .none⟩
theorem Ev.bool {c : Cx} {env : Env} {n : Nat} {ρ : Vars} {b : Bool} {k : Nat} {pos : Pos} : Ev c env n ρ (.Constant (.bool b) k pos) (.bool b) :=
  fun _ s _ I _ => wpAny_Constant_bool ⟨.refl I, .bool b⟩

/-- a binary operator upon data -/
def Bin (c : Cx) (n : Nat) (op : Operator) (d₁ d₂ d : D) : Prop :=
  ∀ A s v₁ v₂, Room A n → Inv c s.heap s.toks → Rep c.X s.heap v₁ d₁ → Rep c.X s.heap v₂ d₂ → Gives c A (binaryOp op v₁ v₂) d s
theorem Ev.bin {c : Cx} {env : Env} {n : Nat} {ρ : Vars} {l r : PySem.Expr} {op : Operator} {pos : Pos} {d₁ d₂ d : D} (h₁ : Ev c env n ρ l d₁) (h₂ : Ev c env n ρ r d₂) (h : Bin c n op d₁ d₂ d) :
    Ev c env n ρ (.BinOp l op r pos) d := by
  intro A s R I S
  refine wpAny_BinOp ((h₁ A s R I S).use fun v s₁ x r₁ => (h₂ A s₁ R x.inv (S.ext x.ext)).use fun u s₂ y r₂ => ?_)
  exact Gives.after (x.trans y) (h A s₂ v u R y.inv (r₁.ext y.ext) r₂)

/-- a comparison upon data -/
def Cmp (c : Cx) (n : Nat) (op : CmpOp) (d₁ d₂ d : D) : Prop :=
  ∀ A s v₁ v₂, Room A n → Inv c s.heap s.toks → Rep c.X s.heap v₁ d₁ → Rep c.X s.heap v₂ d₂ → Gives c A (compareOp op v₁ v₂) d s
theorem Ev.cmp {c : Cx} {env : Env} {n : Nat} {ρ : Vars} {l r : PySem.Expr} {op : CmpOp} {pos : Pos} {d₁ d₂ d : D} (h₁ : Ev c env n ρ l d₁) (h₂ : Ev c env n ρ r d₂) (h : Cmp c n op d₁ d₂ d)
    (hm : behindInMarks op r = false := by with_unfolding_all rfl) : Ev c env n ρ (.Compare l [op] [r] pos) d := by
  intro A s R I S
  refine wpAny_Compare1 ((h₁ A s R I S).use fun v s₁ x r₁ => (h₂ A s₁ R x.inv (S.ext x.ext)).use fun u s₂ y r₂ => ?_) hm
  exact Gives.after (x.trans y) (h A s₂ v u R y.inv (r₁.ext y.ext) r₂)

def Un (c : Cx) (n : Nat) (op : UnaryOp) (d₁ d : D) : Prop := ∀ A s v₁, Room A n → Inv c s.heap s.toks → Rep c.X s.heap v₁ d₁ → Gives c A (unaryOp op v₁) d s
theorem Ev.un {c : Cx} {env : Env} {n : Nat} {ρ : Vars} {l : PySem.Expr} {op : UnaryOp} {pos : Pos} {d₁ d : D} (h₁ : Ev c env n ρ l d₁) (h : Un c n op d₁ d) : Ev c env n ρ (.UnaryOp op l pos) d := by
  intro A s R I S
  refine wpAny_UnaryOp ((h₁ A s R I S).use fun v s₁ x r₁ => ?_)
  exact Gives.after x (h A s₁ v R x.inv r₁)

/-! several expressions -/
def Evs (c : Cx) (env : Env) (n : Nat) (ρ : Vars) (es : List PySem.Expr) (ds : List D) : Prop :=
  ∀ A s pos, Room A n → Inv c s.heap s.toks → St c.X env ρ s.heap → wpAny c.M A (spliced (backTo pos (starEach es env))) (fun vs s' => Stp c s s' ∧ Reps c.X s'.heap vs ds) Never s
theorem Evs.nil {c : Cx} {env : Env} {n : Nat} {ρ : Vars} : Evs c env n ρ [] [] := fun _ s _ _ I _ => wpAny_items_nil ⟨.refl I, .nil⟩

theorem Evs.cons {c : Cx} {env : Env} {n : Nat} {ρ : Vars} {e : PySem.Expr} {es : List PySem.Expr} {d : D} {ds : List D} (h : Ev c env n ρ e d) (hs : Evs c env n ρ es ds)
    (he : starEach (e :: es) env = (false, eval e env) :: starEach es env := by rfl) : Evs c env n ρ (e :: es) (d :: ds) := by
  intro A s pos R I S
  refine wpAny_items_cons ((h A s R I S).use fun v s₁ x r => ?_) he
  exact wpAny_mono (hs A s₁ pos R x.inv (S.ext x.ext)) (fun vs s₂ y => ⟨x.trans y.1, .cons (r.ext y.1.ext) y.2⟩) fun _ _ z => z

theorem Ev.tuple {c : Cx} {env : Env} {n : Nat} {ρ : Vars} {es : List PySem.Expr} {ds : List D} {k : Nat} {pos : Pos} (hs : Evs c env n ρ es ds) (hz : ds.length ≤ 1000 := by exact Nat.le_of_ble_eq_true rfl) : Ev c env n ρ (.Tuple es k pos) (.tup ds) := by
  intro A s R I S
  refine wpAny_Tuple (wpAny_mono (hs A s pos R I S) (fun vs s₁ x => ⟨?_, ?_, ?_⟩) fun _ _ z => z)
  · rw [x.2.length]; exact Nat.le_trans hz (by decide)
  · exact x.1.trans (.push x.1.inv _)
  · exact .tup (Heap.get?_push_size _ rfl) (x.2.ext (.push _ _))
theorem Ev.list {c : Cx} {env : Env} {n : Nat} {ρ : Vars} {es : List PySem.Expr} {ds : List D} {pos : Pos} (hs : Evs c env n ρ es ds) (hz : ds.length ≤ 1000 := by exact Nat.le_of_ble_eq_true rfl) : Ev c env n ρ (.List es pos) (.lst Option.none ds) := by
  intro A s R I S
  refine wpAny_List (wpAny_mono (hs A s pos R I S) (fun vs s₁ x => ⟨?_, ?_, ?_⟩) fun _ _ z => z)
  · rw [x.2.length]; exact Nat.le_trans hz (by decide)
  · exact x.1.trans (.push x.1.inv _)
  · exact .lst (Heap.get?_push_size _ rfl) (fun _ e => by cases e) (fun _ => x.1.inv.new) (x.2.ext (.push _ _))

/-! ## Truth -/
def Tru (c : Cx) (env : Env) (n : Nat) (ρ : Vars) (e : PySem.Expr) (b : Bool) : Prop :=
  ∀ A s, Room A n → Inv c s.heap s.toks → St c.X env ρ s.heap → wpAny c.M A (isTrue e env (eval e env)) (fun r s' => Stp c s s' ∧ r = b) Never s
def Truthy (c : Cx) (n : Nat) (d : D) (b : Bool) : Prop := ∀ A s v, Room A n → Inv c s.heap s.toks → Rep c.X s.heap v d → wpAny c.M A (truthy v) (fun r s' => Stp c s s' ∧ r = b) Never s

theorem Truthy.bool {c : Cx} {n : Nat} {b : Bool} : Truthy c n (.bool b) b := by
  intro A s v R I r
  obtain rfl := r.isBool
  exact wpAny_truthy_bool ⟨.refl I, rfl⟩

theorem Tru.value {c : Cx} {env : Env} {n : Nat} {ρ : Vars} {e : PySem.Expr} {d : D} {b : Bool} (h : Ev c env n ρ e d) (t : Truthy c n d b)
    (he : ∀ whole, isTrue e env whole = (do let v ← whole; standAt e.pos; holding [v] (truthy v)) := by intro _; rfl) : Tru c env n ρ e b := by
  intro A s R I S
  refine wpAny_isTrue_value ((h A s R I S).use fun v s₁ x r => ?_) (he _)
  exact wpAny_mono (t A s₁ v R x.inv r) (fun _ _ y => ⟨x.trans y.1, y.2⟩) fun _ _ z => z
theorem Tru.cmp {c : Cx} {env : Env} {n : Nat} {ρ : Vars} {l r : PySem.Expr} {op : CmpOp} {pos : Pos} {d₁ d₂ : D} {b : Bool} (h₁ : Ev c env n ρ l d₁) (h₂ : Ev c env n ρ r d₂) (h : Cmp c n op d₁ d₂ (.bool b))
    (hm : behindInMarks op r = false := by with_unfolding_all rfl) : Tru c env n ρ (.Compare l [op] [r] pos) b := by
  intro A s R I S
  refine wpAny_isTrue_Compare1 ((h₁ A s R I S).use fun v s₁ x r₁ => (h₂ A s₁ R x.inv (S.ext x.ext)).use fun u s₂ y r₂ => ?_) hm
  refine (h A s₂ v u R y.inv (r₁.ext y.ext) r₂).use fun q s₃ z r₃ => ?_
  obtain rfl := r₃.isBool
  exact wpAny_truthy_bool ⟨(x.trans y).trans z, rfl⟩
theorem Tru.not {c : Cx} {env : Env} {n : Nat} {ρ : Vars} {e : PySem.Expr} {pos : Pos} {b : Bool} (h : Tru c env n ρ e b) : Tru c env n ρ (.UnaryOp .Not e pos) (!b) := by
  intro A s R I S
  exact wpAny_isTrue_Not (wpAny_mono (h A s R I S) (fun _ _ x => ⟨x.1, by rw [x.2]⟩) fun _ _ z => z)

def Trus (c : Cx) (env : Env) (n : Nat) (ρ : Vars) (op : BoolOp) (es : List PySem.Expr) (b : Bool) : Prop :=
  ∀ A s, Room A n → Inv c s.heap s.toks → St c.X env ρ s.heap → wpAny c.M A (allTrue op es env) (fun r s' => Stp c s s' ∧ r = b) Never s
theorem Trus.and_nil {c : Cx} {env : Env} {n : Nat} {ρ : Vars} : Trus c env n ρ .And [] true := fun A s R I S => wpAny_allTrue_And_nil ⟨.refl I, rfl⟩
theorem Trus.or_nil {c : Cx} {env : Env} {n : Nat} {ρ : Vars} : Trus c env n ρ .Or [] false := fun A s R I S => wpAny_allTrue_Or_nil ⟨.refl I, rfl⟩
theorem Trus.and_cons {c : Cx} {env : Env} {n : Nat} {ρ : Vars} {e : PySem.Expr} {es : List PySem.Expr} {b b' : Bool} (h : Tru c env n ρ e b) (hs : b = true → Trus c env n ρ .And es b') : Trus c env n ρ .And (e :: es) (b && b') := by
  intro A s R I S
  refine wpAny_allTrue_And_cons (wpAny_mono (h A s R I S) (fun r s₁ x => ?_) fun _ _ z => z)
  obtain ⟨x, rfl⟩ := x
  cases r with
  | false => exact ⟨x, rfl⟩
  | true => exact wpAny_mono (hs rfl A s₁ R x.inv (S.ext x.ext)) (fun _ _ y => ⟨x.trans y.1, by rw [y.2]; rfl⟩) fun _ _ z => z
theorem Trus.or_cons {c : Cx} {env : Env} {n : Nat} {ρ : Vars} {e : PySem.Expr} {es : List PySem.Expr} {b b' : Bool} (h : Tru c env n ρ e b) (hs : b = false → Trus c env n ρ .Or es b') : Trus c env n ρ .Or (e :: es) (b || b') := by
  intro A s R I S
  refine wpAny_allTrue_Or_cons (wpAny_mono (h A s R I S) (fun r s₁ x => ?_) fun _ _ z => z)
  obtain ⟨x, rfl⟩ := x
  cases r with
  | true => exact ⟨x, rfl⟩
  | false => exact wpAny_mono (hs rfl A s₁ R x.inv (S.ext x.ext)) (fun _ _ y => ⟨x.trans y.1, by rw [y.2]; rfl⟩) fun _ _ z => z
theorem Tru.boolOp {c : Cx} {env : Env} {n : Nat} {ρ : Vars} {op : BoolOp} {es : List PySem.Expr} {pos : Pos} {b : Bool} (h : Trus c env n ρ op es b) : Tru c env n ρ (.BoolOp op es pos) b :=
  fun A s R I S => wpAny_isTrue_BoolOp (h A s R I S)

/-- a chain of two comparisons, as a test -/
theorem Tru.chain {c : Cx} {env : Env} {n : Nat} {ρ : Vars} {l m r : PySem.Expr} {op op' : CmpOp} {pos : Pos} {d₁ d₂ d₃ : D} {b b' : Bool} (h₁ : Ev c env n ρ l d₁) (h₂ : Ev c env n ρ m d₂) (h₃ : Ev c env n ρ r d₃)
    (h : Cmp c n op d₁ d₂ (.bool b)) (h' : Cmp c n op' d₂ d₃ (.bool b'))
    (hm : lastMarks [op, op'] [m, r] = false := by with_unfolding_all rfl) : Tru c env n ρ (.Compare l [op, op'] [m, r] pos) (b && b') := by
  intro A s R I S
  refine isTrue_chain ((h₁ A s R I S).use fun v s₁ x r₁ => ?_) hm
  show wpAny c.M A (do
    let rv ← holding [v] (eval m env)
    standAt pos
    let q ← holding [v, rv] (compareOp op v rv)
    release [v, rv] [q]
    if ← holding [q, rv] (truthy q) then testChain pos rv [op'] [eval r env] else pure false) _ _ s₁
  refine wpAny_bind (wpAny_holding ((h₂ A s₁ R x.inv (S.ext x.ext)).use fun u s₂ y r₂ => wpAny_bind (wpAny_standAt (wpAny_bind (wpAny_holding ((h A s₂ v u R y.inv (r₁.ext y.ext) r₂).use fun q s₃ z r₃ => ?_)))))) 
  obtain rfl := r₃.isBool
  refine wpAny_bind (wpAny_release' (wpAny_bind (wpAny_holding (wpAny_truthy_bool ?_))))
  have st := (x.trans y).trans z
  cases b with
  | false => exact wpAny_pure ⟨st, rfl⟩
  | true =>
    simp only [if_true]
    show wpAny c.M A (do
      let rv ← holding [u] (eval r env)
      standAt pos
      let q ← operate [u, rv] (compareOp op' u rv)
      holding [q] (truthy q)) _ _ s₃
    refine wpAny_bind (wpAny_holding ((h₃ A s₃ R z.inv (S.ext st.ext)).use fun k s₄ z' r₄ => wpAny_bind (wpAny_standAt (wpAny_bind (wpAny_operate' ((h' A s₄ u k R z'.inv ((r₂.ext z.ext).ext z'.ext) r₄).use fun q s₅ z'' r₅ => ?_))))))
    obtain rfl := r₅.isBool
    exact wpAny_holding (wpAny_truthy_bool ⟨(st.trans z').trans z'', by simp⟩)

theorem Ev.ifExp {c : Cx} {env : Env} {n : Nat} {ρ : Vars} {t x y : PySem.Expr} {pos : Pos} {b : Bool} {d : D} (h : Tru c env n ρ t b) (h₁ : b = true → Ev c env n ρ x d) (h₂ : b = false → Ev c env n ρ y d) : Ev c env n ρ (.IfExp t x y pos) d := by
  intro A s R I S
  refine wpAny_IfExp (wpAny_mono (h A s R I S) (fun r s₁ z => ?_) fun _ _ z => z)
  obtain ⟨z, rfl⟩ := z
  cases r with
  | true => exact Gives.after z (h₁ rfl A s₁ R z.inv (S.ext z.ext))
  | false => exact Gives.after z (h₂ rfl A s₁ R z.inv (S.ext z.ext))

/-! ## Calls -/
def CallTo (c : Cx) (n : Nat) (f : Value) (ds : List D) (d : D) : Prop :=
  ∀ A s vs, Room A n → Inv c s.heap s.toks → Reps c.X s.heap vs ds → Gives c A (call f vs) d s

/-- what is called, as the interpreter asks before the call -/
def Callee (c : Cx) (f : Value) : Prop := (∃ id, f = .builtin id) ∨ (∃ T, f = .type T) ∨ ∃ a o fd, f = .ref a ∧ c.B.get? a = some o ∧ o.data = .func fd

theorem evalArgs_all {M : Model} {A : Around} {E : Value → Shared → Prop} {s : Shared} {f : Value} {args : List (Bool × Sem Value)} {Q : Args → Shared → Prop} (ha : args.any (·.1) = false)
    (h : wpAny M A (spliced args) (fun vs s' => Q ⟨vs, []⟩ s') E s) : wpAny M A (evalArgs f true args []) Q E s := by
  cases args with
  | nil =>
    unfold evalArgs
    show wpAny M A (spliced [] >>= _) Q E s
    refine wpAny_bind (wpAny_mono h (fun vs s' h' => ?_) fun _ _ z => z)
    exact wpAny_bind (wpAny_pure (wpAny_holding (wpAny_bind (wpAny_pure (wpAny_bind (wpAny_pure (wpAny_pure h')))))))
  | cons p rest =>
    obtain ⟨b, x⟩ := p
    cases b with
    | true => simp at ha
    | false => exact Calls.evalArgs_plain h

theorem callWith_any {c : Cx} {A : Around} {E : Value → Shared → Prop} {s : Shared} {pos : Pos} {f : Value} {first : List Value} {args : List (Bool × Sem Value)} {Q : Value → Shared → Prop} (hc : Callee c f) (ha : args.any (·.1) = false)
    (h : wpAny c.M A (spliced args) (fun vs s₁ => Inv c s₁.heap s₁.toks ∧ wpAny c.M A (call f (first ++ vs)) Q E s₁) E s) : wpAny c.M A (callWith pos f first args []) Q E s := by
  rcases hc with ⟨id, rfl⟩ | ⟨T, rfl⟩ | ⟨a, o, fd, rfl, ho, hd⟩
  · exact Calls.callWith_builtin ha (evalArgs_all ha (wpAny_mono h (fun _ _ x => x.2) fun _ _ z => z))
  · unfold callWith
    refine wpAny_bind (wpAny_holding (evalArgs_all ha (wpAny_mono h (fun a s₁ h₁ => wpAny_bind (wpAny_standAt ?_)) fun _ _ x => x)))
    simp only [ha, List.any_nil, Bool.or_false]
    refine wpAny_bind (wpAny_pure ?_)
    exact wpAny_bind (wpAny_mono h₁.2 (fun r s₂ hr => wpAny_bind (wpAny_holding (wpAny_point (wpAny_pure hr)))) fun _ _ x => x)
  · exact Calls.callWith_function (o := o) (fd := fd) (evalArgs_all ha (wpAny_mono h (fun _ _ x => ⟨⟨x.1.base _ _ ho, hd⟩, x.2⟩) fun _ _ z => z))

/-- a name of the module's or a built-in name -/
def GlobIs (c : Cx) (x : Str) (f : Value) : Prop := c.mg x = some f ∨ (c.mg x = Option.none ∧ c.mb x = some f)

theorem ld_glob {c : Cx} {env : Env} {A : Around} {E : Value → Shared → Prop} {s : Shared} {x : Str} {pos : Pos} {f : Value} {Q : Value → Shared → Prop} (K : EnvOk env) (I : Inv c s.heap s.toks) (hk : env.kindOf x = some .globalImplicit) (g : GlobIs c x f) (h : Q f s)
    (hd : (x == ("__debug__" : Str)) = false := by decide) : wpAny c.M A (eval (.Name x pos) env) Q E s := by
  have G : s.heap.Ns env.globals c.mg := by rw [K.glob]; exact I.ns c.GB
  have B : s.heap.Ns env.builtins c.mb := by rw [K.blt]; exact I.ns c.BB
  refine Calls.Name_function_global K.kind hk ?_ hd
  rcases g with g | ⟨g, g'⟩
  · exact Calls.loadGlobal_global G g h
  · exact Calls.loadGlobal_builtin G g B g' h

theorem Ev.call {c : Cx} {env : Env} {n : Nat} {ρ : Vars} {x : Str} {p pos : Pos} {args : List PySem.Expr} {f : Value} {ds : List D} {d : D} (K : EnvOk env) (hk : env.kindOf x = some .globalImplicit) (g : GlobIs c x f) (hc : Callee c f)
    (ha : Evs c env n ρ args ds) (h : CallTo c n f ds d) (hp : (backTo pos (starEach args env)).any (·.1) = false := by rfl) (hd : (x == ("__debug__" : Str)) = false := by decide) :
    Ev c env n ρ (.Call (.Name x p) args [] pos) d := by
  intro A s R I S
  show wpAny c.M A (do callWith pos (← eval (.Name x p) env) [] (backTo pos (starEach args env)) (backToKw pos (keywordEach [] env))) _ _ s
  refine wpAny_bind (ld_glob K I hk g ?_ hd)
  refine callWith_any hc hp (wpAny_mono (ha A s pos R I S) (fun vs s₁ y => ⟨y.1.inv, ?_⟩) fun _ _ z => z)
  exact Gives.after y.1 (h A s₁ vs R y.1.inv y.2)

/-! methods of built-in kinds -/
structure MethOk (T : String) (name : Str) (id : String) : Prop where
  pa : PlainAttrs T
  slot : Slot T name id
  ty : typeOf (.builtin id) = pure (.type "method_descriptor")
def KindIs (d : D) (T : String) : Prop := ∀ (X : List Addr) (s : Shared) (v : Value), Rep X s.heap v d → s.TypeIs v T ∧ ∀ a, v = .ref a → ∃ ob, s.heap.get? a = some ob ∧ ob.dict = none
theorem KindIs.str {x : Str} : KindIs (.str x) "str" := by
  intro X s v r; cases r; exact ⟨rfl, fun _ e => by cases e⟩
theorem KindIs.int {i : Int} : KindIs (.int i) "int" := by
  intro X s v r; cases r; exact ⟨rfl, fun _ e => by cases e⟩
theorem KindIs.lst {t : Option Addr} {l : List D} : KindIs (.lst t l) "list" := by
  intro X s v r; cases r with | lst e _ _ _ => exact ⟨⟨_, e, rfl⟩, fun _ q => by cases q; exact ⟨_, e, rfl⟩⟩
theorem KindIs.tup {l : List D} : KindIs (.tup l) "tuple" := by
  intro X s v r; cases r with | tup e _ => exact ⟨⟨_, e, rfl⟩, fun _ q => by cases q; exact ⟨_, e, rfl⟩⟩

theorem Ev.meth {c : Cx} {env : Env} {n : Nat} {ρ : Vars} {o : PySem.Expr} {name : Str} {apos pos : Pos} {args : List PySem.Expr} {T id : String} {d₀ : D} {ds : List D} {d : D} (M : MethOk T name id) (k : KindIs d₀ T)
    (ho : Ev c env n ρ o d₀) (ha : Evs c env n ρ args ds) (h : CallTo c n (.builtin id) (d₀ :: ds) d)
    (hp : (backTo pos (starEach args env)).any (·.1) = false := by rfl)
    (hbase : attributeBase o name env (eval o env) = eval o env := by rfl)
    (hfew : ((backTo pos (starEach args env)).all (fun x => !x.1) && (backToKw pos (keywordEach [] env)).all (fun x => x.1.isSome)
      && decide (args.length + ([] : List Keyword).length + (if ([] : List Keyword).isEmpty then 0 else 1) < 30)) = true := by rfl)
    (hline : (apos.endLine == pos.line) = true := by rfl) :
    Ev c env n ρ (.Call (.Attribute o name apos) args [] pos) d := by
  intro A s R I S
  refine wpAny_Call_method_late hbase hfew hline rfl ((ho A s R I S).use fun v s₁ x r => ?_)
  obtain ⟨k1, k2⟩ := k c.X s₁ v r
  refine ⟨T, id, M.pa, M.slot, M.ty, k1, k2, ?_⟩
  refine Calls.callWith_builtin hp (evalArgs_all hp (wpAny_mono (ha A s₁ pos R x.inv (S.ext x.ext)) (fun vs s₂ y => ?_) fun _ _ z => z))
  exact Gives.after (x.trans y.1) (h A s₂ _ R y.1.inv (.cons (r.ext y.1.ext) y.2))

/-! items -/
def Itm (c : Cx) (n : Nat) (d₀ i d : D) : Prop := ∀ A s v u, Room A n → Inv c s.heap s.toks → Rep c.X s.heap v d₀ → Rep c.X s.heap u i → Gives c A (getItem v u) d s
def Getter (d : D) : Prop := ∃ T id, typeLookup (.type T) "__getitem__" = pure (some (.builtin id)) ∧ ∀ (X : List Addr) (s : Shared) (v : Value), Rep X s.heap v d → s.TypeIs v T
theorem Getter.str {x : Str} : Getter (.str x) := ⟨"str", _, slot_str_getitem.lookup, fun X s v r => (KindIs.str X s v r).1⟩
theorem Getter.lst {t : Option Addr} {l : List D} : Getter (.lst t l) := ⟨"list", _, slot_list_getitem.lookup, fun X s v r => (KindIs.lst X s v r).1⟩
theorem Getter.tup {l : List D} : Getter (.tup l) := ⟨"tuple", _, slot_tuple_getitem.lookup, fun X s v r => (KindIs.tup X s v r).1⟩
theorem Getter.scr {l : List Int} : Getter (.scr l) := ⟨"list", _, slot_list_getitem.lookup, fun X s v r => by cases r with | scr l _ _ => exact l.typeIs⟩

theorem Ev.item {c : Cx} {env : Env} {n : Nat} {ρ : Vars} {o i : PySem.Expr} {pos : Pos} {d₀ di d : D} (g : Getter d₀) (ho : Ev c env n ρ o d₀) (hi : Ev c env n ρ i di) (h : Itm c n d₀ di d)
    (hs : ∀ v u, subscripted i false v u = operate [v, u] (getItem v u) := by intro _ _; rfl) : Ev c env n ρ (.Subscript o i pos) d := by
  intro A s R I S
  obtain ⟨T, id, g1, g2⟩ := g
  refine Subscript_ ((ho A s R I S).use fun v s₁ x r => (hi A s₁ R x.inv (S.ext x.ext)).use fun u s₂ y r₂ => ?_)
  refine tail_any (g2 c.X s₂ v (r.ext y.ext)) g1 ?_ (hs v u)
  exact Gives.after (x.trans y) (h A s₂ v u R y.inv (r.ext y.ext) r₂)

theorem St.chg {X : List Addr} {env : Env} {ρ : Vars} {h h' : Heap} {a : Addr} (S : St X env ρ h) (hs : Heap.ExtBut a h h') (hq : ∀ o, h.get? a = some o → harmless o)
    (hl : a ≠ env.locals) (hc : ∀ x b, env.cells.lookup x = some b → b ≠ a) : St X env ρ h' := by
  obtain ⟨⟨m, hn, hm, hl'⟩, hc', ho, hk⟩ := S
  refine ⟨⟨m, hn.extBut hs (Ne.symm hl), hm, fun y d e k => ?_⟩, fun y d e k => ?_, fun y b e => ?_, hk⟩
  · obtain ⟨v, h1, h2⟩ := hl' y d e k
    exact ⟨v, h1, h2.chg hs hq⟩
  · obtain ⟨b, v, h1, ⟨o, h2, h2'⟩, h3⟩ := hc' y d e k
    exact ⟨b, v, h1, ⟨o, hs _ _ (hc y b h1) h2, h2'⟩, h3.chg hs hq⟩
  · obtain ⟨v, o, h1, h1'⟩ := ho y b e
    exact ⟨v, o, hs _ _ (hc y b e) h1, h1'⟩

/-! ## Iterators -/
def upFrom (x : Int) : Nat → List D
  | 0 => []
  | n + 1 => .int x :: upFrom (x + 1) n
theorem upFrom_length (n : Nat) : ∀ x, (upFrom x n).length = n := by
  induction n with
  | zero => intro x; rfl
  | succ n ih => intro x; show (upFrom (x + 1) n).length + 1 = _; rw [ih]

inductive ItAt (X : List Addr) (h : Heap) (a : Addr) : List D → Prop
  | lst {l vs n i ds} : h.IsListIter a l i → h.get? l = some (lstObj vs n) → l ∉ X → Reps X h (vs.drop i) ds → ItAt X h a ds
  | tup {l vs n i ds} : h.IsTupleIter a l i → h.get? l = some (tupObj vs n) → Reps X h (vs.drop i) ds → ItAt X h a ds
  | rng {x : Int} {n : Nat} : IsRangeIter h a x n 1 → ItAt X h a (upFrom x n)
  | rev {l vs n} {k : Nat} {ds} : Heap.IsRevIter h a l ((k : Int) - 1) → h.get? l = some (lstObj vs n) → l ∉ X → k ≤ vs.length → Reps X h (vs.take k).reverse ds → ItAt X h a ds

/-- what is known of an iterator's object -/
structure ItObj (h : Heap) (a : Addr) : Prop where
  obj : ∃ o vs T, h.get? a = some o ∧ o.data = .fields vs ∧ o.cls = .type T ∧ T ≠ "range" ∧ strAt vs = false

theorem ItAt.obj {X : List Addr} {h : Heap} {a : Addr} {ds : List D} (it : ItAt X h a ds) : ItObj h a := by
  cases it with
  | lst e _ _ _ => obtain ⟨o, e1, e2, e3⟩ := e; exact ⟨o, _, _, e1, e3, e2, by decide, rfl⟩
  | tup e _ _ => obtain ⟨o, e1, e2, e3⟩ := e; exact ⟨o, _, _, e1, e3, e2, by decide, rfl⟩
  | rng e => exact ⟨_, _, _, e, rfl, rfl, by decide, rfl⟩
  | rev e _ _ _ _ => obtain ⟨o, e1, e2, e3⟩ := e; exact ⟨o, _, _, e1, e3, e2, by decide, rfl⟩
theorem ItObj.quiet {h : Heap} {a : Addr} (i : ItObj h a) : ∀ o, h.get? a = some o → harmless o := by
  obtain ⟨o, vs, T, e1, e2, e3, e4, _⟩ := i
  intro o' e'
  rw [e1] at e'; cases e'
  unfold harmless
  rw [e2, e3]
  refine ⟨fun q => ?_, ‹_›⟩
  injection q with q
  exact e4 q
theorem ItObj.soft {h : Heap} {a : Addr} (i : ItObj h a) : ∀ o, h.get? a = some o → hard o = false := by
  obtain ⟨o, vs, T, e1, e2, e3, _, e4⟩ := i
  intro o' e'
  rw [e1] at e'; cases e'
  unfold hard
  rw [e2]
  simp only [e4, Bool.false_or]
  unfold isTab
  rw [e2, e3]
theorem ItObj.notX {c : Cx} {h : Heap} {a : Addr} (i : ItObj h a) {m} {L : Addr} (n : h.Ns L m) : a ≠ L := by
  obtain ⟨o, vs, T, e1, e2, e3, _, e4⟩ := i
  rintro rfl
  obtain ⟨o', es, ep, f1, f2, _⟩ := n
  rw [e1] at f1; cases f1
  rw [e2] at f2; cases f2
theorem ItObj.notCell {h : Heap} {a b : Addr} {v} (i : ItObj h a) (n : h.IsCell b v) : b ≠ a := by
  obtain ⟨o, vs, T, e1, e2, e3, _, e4⟩ := i
  rintro rfl
  obtain ⟨o', f1, f2⟩ := n
  rw [e1] at f1; cases f1
  rw [e2] at f2; cases f2
theorem ItObj.tab {h : Heap} {a : Addr} (i : ItObj h a) : ∀ o, h.get? a = some o → isTab o = false := fun o e => isTab_hard (i.soft o e)

theorem ItAt.ext {X : List Addr} {h h' : Heap} {a : Addr} {ds : List D} (it : ItAt X h a ds) (x : Ext h h') : ItAt X h' a ds := by
  have ob := it.obj.tab
  cases it with
  | lst e e' q r => obtain ⟨o, e1, e2⟩ := e; exact .lst ⟨o, x.keep _ _ e1 (ob _ e1), e2⟩ (x.keep _ _ e' rfl) q (r.ext x)
  | tup e e' r => obtain ⟨o, e1, e2⟩ := e; exact .tup ⟨o, x.keep _ _ e1 (ob _ e1), e2⟩ (x.keep _ _ e' rfl) (r.ext x)
  | rng e => exact .rng (x.keep _ _ e (ob _ e))
  | rev e e' q k r => obtain ⟨o, e1, e2⟩ := e; exact .rev ⟨o, x.keep _ _ e1 (ob _ e1), e2⟩ (x.keep _ _ e' rfl) q k (r.ext x)
theorem ItAt.chg {X : List Addr} {h h' : Heap} {a b : Addr} {ds : List D} (it : ItAt X h a ds) (hs : Heap.ExtBut b h h') (hq : ∀ o, h.get? b = some o → harmless o) (hab : a ≠ b) : ItAt X h' a ds := by
  cases it with
  | lst e e' q r =>
    obtain ⟨o, e1, e2⟩ := e
    exact .lst ⟨o, hs _ _ hab e1, e2⟩ (hs _ _ (fun z => by rw [z] at e'; exact harmless_lst (hq _ e')) e') q (r.chg hs hq)
  | tup e e' r =>
    obtain ⟨o, e1, e2⟩ := e
    exact .tup ⟨o, hs _ _ hab e1, e2⟩ (hs _ _ (fun z => by rw [z] at e'; exact harmless_tup (hq _ e')) e') (r.chg hs hq)
  | rng e => exact .rng (hs _ _ hab e)
  | rev e e' q k r =>
    obtain ⟨o, e1, e2⟩ := e
    exact .rev ⟨o, hs _ _ hab e1, e2⟩ (hs _ _ (fun z => by rw [z] at e'; exact harmless_lst (hq _ e')) e') q k (r.chg hs hq)

theorem Reps.drop_cons {X : List Addr} {h : Heap} {vs : List Value} {i : Nat} {d : D} {ds : List D} (r : Reps X h (vs.drop i) (d :: ds)) : ∃ v, vs[i]? = some v ∧ Rep X h v d ∧ Reps X h (vs.drop (i + 1)) ds := by
  cases q : vs.drop i with
  | nil => rw [q] at r; cases r
  | cons v rest =>
    rw [q] at r
    cases r with
    | cons r1 r2 =>
      have hv : vs[i]? = some v := by
        have := congrArg (·[0]?) q
        simpa using this
      have hr : vs.drop (i + 1) = rest := by
        have := congrArg List.tail q
        simpa using this
      exact ⟨v, hv, r1, by rw [hr]; exact r2⟩
theorem Reps.drop_nil {X : List Addr} {h : Heap} {vs : List Value} {i : Nat} (r : Reps X h (vs.drop i) []) : vs[i]? = none := by
  cases q : vs.drop i with
  | nil => rw [List.drop_eq_nil_iff] at q; rw [List.getElem?_eq_none_iff]; exact q
  | cons v rest => rw [q] at r; cases r
theorem lst_isList {h : Heap} {l : Addr} {vs : List Value} {n : Nat} (e : h.get? l = some (lstObj vs n)) : h.IsList l vs.toArray := ⟨_, e, rfl, n, rfl⟩
theorem tup_isTuple {h : Heap} {l : Addr} {vs : List Value} {n : Nat} (e : h.get? l = some (tupObj vs n)) : h.IsTuple l vs.toArray := ⟨_, e, rfl, n, rfl⟩

theorem ItAt.next {c : Cx} {A : Around} {E : Value → Shared → Prop} {s : Shared} {a : Addr} {d : D} {ds : List D} {Q : Option Value → Shared → Prop} (it : ItAt c.X s.heap a (d :: ds))
    (h : ∀ v h' tk, s.toks ≤ tk → Heap.SameBut a s.heap h' → ItAt c.X h' a ds → Rep c.X h' v d → Q (some v) { s with heap := h', toks := tk }) : wpAny c.M A (pyNext (.ref a)) Q E s := by
  have ob := it.obj
  generalize hD : d :: ds = D0 at it
  cases it with
  | @lst l vs n i _ e e' q r =>
    subst hD
    obtain ⟨v, hv, r1, r2⟩ := r.drop_cons
    have hla : l ≠ a := by
      rintro rfl
      obtain ⟨o, e1, _, e3⟩ := e
      rw [e1] at e'; cases e'; cases e3
    refine wpAny_pyNext_list_item e (lst_isList e') (by simpa using hv) fun h' e2 hs => ?_
    exact h v h' s.toks (Nat.le_refl _) hs (.lst e2 ((hs.2 _ hla).trans e') q (r2.chg hs.extBut ob.quiet)) (r1.chg hs.extBut ob.quiet)
  | @tup l vs n i _ e e' r =>
    subst hD
    obtain ⟨v, hv, r1, r2⟩ := r.drop_cons
    have hla : l ≠ a := by
      rintro rfl
      obtain ⟨o, e1, _, e3⟩ := e
      rw [e1] at e'; cases e'; cases e3
    refine wpAny_pyNext_tuple_item e (tup_isTuple e') (by simpa using hv) fun h' e2 hs => ?_
    exact h v h' s.toks (Nat.le_refl _) hs (.tup e2 ((hs.2 _ hla).trans e') (r2.chg hs.extBut ob.quiet)) (r1.chg hs.extBut ob.quiet)
  | @rng x n e =>
    cases n with
    | zero => cases hD
    | succ n =>
      cases hD
      refine wpAny_pyNext_range_item e (by omega) fun h' e2 hs => ?_
      have e3 : IsRangeIter h' a (x + 1) (n : Int) 1 := by
        have q : ((n + 1 : Nat) : Int) - 1 = (n : Int) := by omega
        rw [q] at e2; exact e2
      exact h _ h' _ (by first | exact Nat.le_succ _ | omega) hs (.rng e3) (.int _ _)
  | @rev l vs n k _ e e' q hk r =>
    subst hD
    cases k with
    | zero => simp at r; cases r
    | succ k =>
      have hk' : k < vs.length := hk
      have hr : (vs.take (k + 1)).reverse = vs[k] :: (vs.take k).reverse := by
        rw [List.take_succ_eq_append_getElem hk', List.reverse_append]; rfl
      rw [hr] at r
      cases r with
      | cons r1 r2 =>
        have hla : l ≠ a := by
          rintro rfl
          obtain ⟨o, e1, _, e3⟩ := e
          rw [e1] at e'; cases e'; cases e3
        have e0 : Heap.IsRevIter s.heap a l (k : Int) := by
          have q : ((k + 1 : Nat) : Int) - 1 = (k : Int) := by omega
          rw [q] at e; exact e
        refine wpAny_pyNext_rev_item e0 (lst_isList e') (x := vs[k]) (by simp [hk']) fun h' e2 hs => ?_
        exact h _ h' s.toks (Nat.le_refl _) hs (.rev e2 ((hs.2 _ hla).trans e') q (Nat.le_of_lt hk') (r2.chg hs.extBut ob.quiet)) (r1.chg hs.extBut ob.quiet)

theorem ItAt.stop {c : Cx} {A : Around} {E : Value → Shared → Prop} {s : Shared} {a : Addr} {Q : Option Value → Shared → Prop} (hh : A.handled = none) (it : ItAt c.X s.heap a [])
    (h : ∀ h', Heap.ExtBut a s.heap h' → Q none { s with heap := h' }) : wpAny c.M A (pyNext (.ref a)) Q E s := by
  generalize hD : ([] : List D) = D0 at it
  cases it with
  | lst e e' q r => subst hD; exact wpAny_pyNext_list_end hh e (lst_isList e') (by simpa using r.drop_nil) h
  | tup e e' r => subst hD; exact wpAny_pyNext_tuple_end hh e (tup_isTuple e') (by simpa using r.drop_nil) h
  | @rng x n e =>
    cases n with
    | zero => exact wpAny_pyNext_range_end hh e (by omega) h
    | succ n => cases hD
  | @rev l vs n k _ e e' q hk r =>
    subst hD
    cases k with
    | zero => exact wpAny_pyNext_rev_end hh (by simpa using e) h
    | succ k =>
      have hk' : k < vs.length := hk
      have hr : (vs.take (k + 1)).reverse = vs[k] :: (vs.take k).reverse := by
        rw [List.take_succ_eq_append_getElem hk', List.reverse_append]; rfl
      rw [hr] at r
      cases r

/-- an iterator asked for its iterator gives itself -/
theorem ItAt.self {c : Cx} {A : Around} {E : Value → Shared → Prop} {s : Shared} {a : Addr} {ds : List D} {Q : Value → Shared → Prop} (it : ItAt c.X s.heap a ds) (h : Q (.ref a) s) : wpAny c.M A (pyIter (.ref a)) Q E s := by
  cases it with
  | lst e _ _ _ => exact wpAny_pyIter_listiter e h
  | tup e _ _ => exact wpAny_pyIter_tupleiter e h
  | rng e => exact wpAny_pyIter_rangeiter e h
  | rev e _ _ _ _ => exact wpAny_pyIter_revIter e h

/-! what a loop goes over -/
def Src (c : Cx) (env : Env) (n : Nat) (ρ : Vars) (e : PySem.Expr) (ds : List D) : Prop :=
  ∀ A s, Room A n → Inv c s.heap s.toks → St c.X env ρ s.heap → wpAny c.M A (eval e env) (fun x s₁ => Stp c s s₁ ∧ wpAny c.M A (pyIter x) (fun it s₂ => ∃ a, it = .ref a ∧ Stp c s s₂ ∧ s.heap.get? a = none ∧ ItAt c.X s₂.heap a ds) Never s₁) Never s

theorem Src.lst {c : Cx} {env : Env} {n : Nat} {ρ : Vars} {e : PySem.Expr} {ds : List D} (h : Ev c env n ρ e (.lst Option.none ds)) : Src c env n ρ e ds := by
  intro A s R I S
  refine (h A s R I S).use fun v s₁ x r => ⟨x, ?_⟩
  rcases r.isLst with ⟨_, _, _, rfl, e, _, q, r⟩
  ·
    refine wpAny_pyIter_list (lst_isList e) ⟨_, rfl, x.trans (.push x.inv _), x.ext.none (get?_size _), .lst (i := 0) ⟨_, Heap.get?_push_size _ rfl, rfl, rfl⟩ (Heap.get?_push_of_some _ e) (q rfl) ?_⟩
    exact r.ext (.push _ _)
theorem Src.tup {c : Cx} {env : Env} {n : Nat} {ρ : Vars} {e : PySem.Expr} {ds : List D} (h : Ev c env n ρ e (.tup ds)) : Src c env n ρ e ds := by
  intro A s R I S
  refine (h A s R I S).use fun v s₁ x r => ⟨x, ?_⟩
  rcases r.isTup with ⟨_, _, _, rfl, e, r⟩
  ·
    refine wpAny_pyIter_tuple (tup_isTuple e) ⟨_, rfl, x.trans (.push x.inv _), x.ext.none (get?_size _), .tup (i := 0) ⟨_, Heap.get?_push_size _ rfl, rfl, rfl⟩ (Heap.get?_push_of_some _ e) ?_⟩
    exact r.ext (.push _ _)
theorem small_range (k : Nat) (h : k ≤ 1000) : Builtin.Range.small 0 (k : Int) 1 = true ∧ Builtin.Range.rangeSize 0 (k : Int) 1 = (k : Int) := by
  have h1 : Builtin.Range.rangeSize 0 (k : Int) 1 = (k : Int) := by
    unfold Builtin.Range.rangeSize
    simp
    omega
  refine ⟨?_, h1⟩
  unfold Builtin.Range.small
  rw [h1]
  unfold Builtin.Range.rangeFitsLong
  simp
  omega
theorem Src.rng {c : Cx} {env : Env} {n : Nat} {ρ : Vars} {e : PySem.Expr} {k : Nat} (h : Ev c env n ρ e (.rng 0 k)) (hk : k ≤ 1000 := by decide) : Src c env n ρ e (upFrom 0 k) := by
  intro A s R I S
  refine (h A s R I S).use fun v s₁ x r => ⟨x, ?_⟩
  cases r with
  | rng e =>
    obtain ⟨h1, h2⟩ := small_range k hk
    refine wpAny_pyIter_range e h1 ⟨_, rfl, x.trans (.push x.inv _), x.ext.none (get?_size _), ?_⟩
    rw [h2]
    exact .rng (Heap.get?_push_size _ rfl)

/-! ## Statements -/
structure Frm (c : Cx) (env : Env) (s₀ : Shared) : Prop extends EnvOk env where
  loc : s₀.heap.get? env.locals = none
  base : ∀ a, s₀.heap.get? a = none → c.B.get? a = none
  apart : Apart env

/-- the state between two statements of a call that began at s₀ -/
structure Sta (c : Cx) (env : Env) (s₀ : Shared) (ρ : Vars) (s : Shared) : Prop where
  inv : Inv c s.heap s.toks
  ext : Ext s₀.heap s.heap
  st : St c.X env ρ s.heap
  sh : s = { s₀ with heap := s.heap, toks := s.toks }

theorem Sta.step {c : Cx} {env : Env} {s₀ s s' : Shared} {ρ : Vars} (S : Sta c env s₀ ρ s) (x : Stp c s s') : Sta c env s₀ ρ s' :=
  ⟨x.inv, S.ext.trans x.ext, S.st.ext x.ext, by rw [x.sh, S.sh]⟩
theorem Sta.less {c : Cx} {env : Env} {s₀ s : Shared} {ρ ρ' : Vars} (S : Sta c env s₀ ρ s) (x : ∀ y d, ρ'.lookup y = some d → ρ.lookup y = some d) : Sta c env s₀ ρ' s := ⟨S.inv, S.ext, S.st.less x, S.sh⟩
theorem Sta.fresh {c : Cx} {env : Env} {s₀ s : Shared} {ρ : Vars} (S : Sta c env s₀ ρ s) : s₀.heap.get? s.heap.objs.size = none := S.ext.none (get?_size _)

theorem ext_same {h₀ h h' : Heap} {a : Addr} (x : Ext h₀ h) (ha : h₀.get? a = none) (hs : Heap.ExtBut a h h') : Ext h₀ h' :=
  ⟨fun b o e t => hs b o (fun q => by rw [q, ha] at e; cases e) (x.keep b o e t), fun b o e => let ⟨o', e'⟩ := x.there b o e; ⟨o', hs b o' (fun q => by rw [q, ha] at e; cases e) e'⟩⟩

theorem ns_notX {c : Cx} {h : Heap} {L : Addr} {m} {tk : Nat} (i : Inv c h tk) (n : h.Ns L m) : L ∉ c.X := fun hx => by
  obtain ⟨vs, k, e⟩ := i.av _ hx
  obtain ⟨o, es, ep, e1, e2, _⟩ := n
  rw [e] at e1; cases e1; cases e2
theorem cell_notX {c : Cx} {h : Heap} {L : Addr} {v} {tk : Nat} (i : Inv c h tk) (n : h.IsCell L v) : L ∉ c.X := fun hx => by
  obtain ⟨vs, k, e⟩ := i.av _ hx
  obtain ⟨o, e1, e2⟩ := n
  rw [e] at e1; cases e1; cases e2
theorem it_notX {c : Cx} {h : Heap} {L : Addr} {tk : Nat} (i : Inv c h tk) (n : ItObj h L) : L ∉ c.X := fun hx => by
  obtain ⟨vs, k, e⟩ := i.av _ hx
  obtain ⟨o, vs', T, e1, e2, _⟩ := n
  rw [e] at e1; cases e1; cases e2

/-- an iterator of this call goes on -/
theorem Sta.iter {c : Cx} {env : Env} {s₀ s : Shared} {ρ : Vars} {a : Addr} {h' : Heap} {tk : Nat} (F : Frm c env s₀) (S : Sta c env s₀ ρ s) (ob : ItObj s.heap a) (ha : s₀.heap.get? a = none) (hs : Heap.ExtBut a s.heap h') (htk : s.toks ≤ tk := by first | exact Nat.le_refl _ | assumption) :
    Sta c env s₀ ρ { s with heap := h', toks := tk } := by
  obtain ⟨m, hn, _⟩ := S.st.loc
  refine ⟨S.inv.chg hs (F.base _ ha) ob.soft (fun hx => absurd hx (it_notX S.inv ob)), ext_same S.ext ha hs, S.st.chg hs ob.quiet (ob.notX (c := c) hn) (fun x b e => ?_), by rw [S.sh]⟩
  obtain ⟨v, q⟩ := S.st.own x b e
  exact ob.notCell q

/-! plain data: no list inside is told to lie anywhere, no header -/
mutual
def D.plain : D → Bool
  | .tup l => D.plains l
  | .lst Option.none l => D.plains l
  | .lst (some _) _ => false
  | .hdr _ => false
  | _ => true
def D.plains : List D → Bool
  | [] => true
  | d :: ds => d.plain && D.plains ds
end
theorem plains_all : ∀ l : List D, D.plains l = l.all D.plain
  | [] => by simp [D.plains]
  | d :: ds => by rw [D.plains, plains_all ds, List.all_cons]
mutual
theorem D.plain_off (a : Addr) : ∀ d : D, d.plain = true → d.off a = true
  | .none, _ => by simp [D.off]
  | .bool _, _ => by simp [D.off]
  | .int _, _ => by simp [D.off]
  | .flt _, _ => by simp [D.off]
  | .str _, _ => by simp [D.off]
  | .tup l, h => by rw [D.off]; exact D.plains_off a l (by rw [D.plain] at h; exact h)
  | .lst Option.none l, h => by rw [D.off, D.plains_off a l (by rw [D.plain] at h; exact h)]; rfl
  | .lst (some _) l, h => by simp [D.plain] at h
  | .scr _, _ => by simp [D.off]
  | .hdr _, h => by simp [D.off]
  | .rng _ _, _ => by simp [D.off]
  | .ref _, _ => by simp [D.off]
  | .fn _, _ => by simp [D.off]
theorem D.plains_off (a : Addr) : ∀ l : List D, D.plains l = true → D.offs a l = true
  | [], _ => by simp [D.offs]
  | d :: ds, h => by
    rw [D.plains, Bool.and_eq_true] at h
    rw [D.offs, D.plain_off a d h.1, D.plains_off a ds h.2]; rfl
end

/-- objects that data are made of -/
def bodyLike (o : Obj) : Prop := match o.data with
  | .seq _ _ => True
  | .fields _ => True
  | .func _ => True
  | _ => False
def SeqKeep (X : List Addr) (h h' : Heap) : Prop := ∀ x o, h.get? x = some o → isTab o = false → bodyLike o → x ∉ X → h'.get? x = some o

mutual
theorem Rep.fram {X : List Addr} {h h' : Heap} (k : SeqKeep X h h') (hX : ∀ x ∈ X, ∃ vs n, h.get? x = some (lstObj vs n)) : ∀ {v d}, Rep X h v d → d.plain = true → Rep X h' v d
  | _, _, .none, _ => .none
  | _, _, .bool b, _ => .bool b
  | _, _, .int i t, _ => .int i t
  | _, _, .flt y t ht, _ => .flt y t ht
  | _, _, .str y t, _ => .str y t
  | _, _, .tup e r, z => .tup (k _ _ e rfl trivial fun m => by obtain ⟨vs, n, e'⟩ := hX _ m; rw [e] at e'; simp at e') (r.fram k hX (by rw [D.plain] at z; exact z))
  | _, _, .lst (tag := Option.none) e t y r, z => .lst (k _ _ e rfl trivial (y rfl)) t y (r.fram k hX (by rw [D.plain] at z; exact z))
  | _, _, .lst (tag := some _) e t y r, z => by simp [D.plain] at z
  | _, _, .scr l i y, _ => .scr (by
      obtain ⟨o, ho, hc, n, hd⟩ := l
      exact ⟨o, k _ _ ho (by unfold isTab; rw [hc]) (by unfold bodyLike; rw [hd]; trivial) y, hc, n, hd⟩) i y
  | _, _, .hdr e1 e2 e3 e4 e5 y p, z => by simp [D.plain] at z
  | _, _, .rng e, _ => .rng (k _ _ e rfl trivial fun m => by obtain ⟨vs, n, e'⟩ := hX _ m; rw [e] at e'; simp at e')
  | _, _, .ref a, _ => .ref a
  | _, _, .fn e1 e2 e3 e4 e5 e6, _ => .fn (k _ _ e1 (isTab_func e2) (by unfold bodyLike; rw [e2]; trivial) fun m => by obtain ⟨vs, n, e'⟩ := hX _ m; rw [e1] at e'; cases e'; cases e2) e2 e3 (k _ _ e4 (isTab_code e5 e6) (by unfold bodyLike; rw [e5]; trivial) fun m => by obtain ⟨vs, n, e'⟩ := hX _ m; rw [e4] at e'; cases e'; cases e5) e5 e6
theorem Reps.fram {X : List Addr} {h h' : Heap} (k : SeqKeep X h h') (hX : ∀ x ∈ X, ∃ vs n, h.get? x = some (lstObj vs n)) : ∀ {vs ds}, Reps X h vs ds → D.plains ds = true → Reps X h' vs ds
  | _, _, .nil, _ => .nil
  | _, _, .cons x r, z => by
    rw [D.plains, Bool.and_eq_true] at z
    exact .cons (x.fram k hX z.1) (r.fram k hX z.2)
end
theorem ItAt.fram {X : List Addr} {h h' : Heap} {a : Addr} {ds : List D} (k : SeqKeep X h h') (hX : ∀ x ∈ X, ∃ vs n, h.get? x = some (lstObj vs n)) (it : ItAt X h a ds) (hp : D.plains ds = true) : ItAt X h' a ds := by
  have ob := it.obj
  have ka : ∀ o, h.get? a = some o → h'.get? a = some o := fun o e => by
    refine k _ _ e (ob.tab o e) ?_ fun m => ?_
    · obtain ⟨o', vs, T, e1, e2, _⟩ := ob
      rw [e1] at e; cases e
      unfold bodyLike; rw [e2]; trivial
    · obtain ⟨vs, n, e'⟩ := hX _ m
      obtain ⟨o', vs', T, e1, e2, _⟩ := ob
      rw [e1] at e'; cases e'; cases e2
  cases it with
  | lst e e' q r => obtain ⟨o, e1, e2⟩ := e; exact .lst ⟨o, ka _ e1, e2⟩ (k _ _ e' rfl trivial q) q (r.fram k hX hp)
  | tup e e' r => obtain ⟨o, e1, e2⟩ := e; exact .tup ⟨o, ka _ e1, e2⟩ (k _ _ e' rfl trivial fun m => by obtain ⟨vs, n, e''⟩ := hX _ m; rw [e'] at e''; simp at e'') (r.fram k hX hp)
  | rng e => exact .rng (ka _ e)
  | rev e e' q hk r => obtain ⟨o, e1, e2⟩ := e; exact .rev ⟨o, ka _ e1, e2⟩ (k _ _ e' rfl trivial q) q hk (r.fram k hX hp)

/-- what a statement may write of what stands -/
def Writes (c : Cx) (env : Env) (x : Addr) : Prop := x = env.locals ∨ (∃ y, env.cells.lookup y = some x ∧ env.kindOf y = some .cell) ∨ x ∈ c.X
def Fram (c : Cx) (env : Env) (s s' : Shared) : Prop := ∀ x o, s.heap.get? x = some o → isTab o = false → ¬ Writes c env x → s'.heap.get? x = some o
theorem Fram.refl (c : Cx) (env : Env) (s : Shared) : Fram c env s s := fun _ _ e _ _ => e
theorem Fram.trans {c : Cx} {env : Env} {a b d : Shared} (x : Fram c env a b) (y : Fram c env b d) : Fram c env a d := fun q o e t w => y q o (x q o e t w) t w
theorem Fram.of_ext {c : Cx} {env : Env} {s s' : Shared} (x : Ext s.heap s'.heap) : Fram c env s s' := fun q o e t _ => x.keep q o e t
theorem Fram.of_but {c : Cx} {env : Env} {s s' : Shared} {a : Addr} (x : Heap.ExtBut a s.heap s'.heap) (w : Writes c env a) : Fram c env s s' := fun q o e _ z => x q o (fun y => z (y ▸ w)) e
/-- names alone are written -/
def FramV (env : Env) (s s' : Shared) : Prop := ∀ x o, s.heap.get? x = some o → isTab o = false → x ≠ env.locals → ¬ (∃ y, env.cells.lookup y = some x ∧ env.kindOf y = some .cell) → s'.heap.get? x = some o
theorem FramV.refl (env : Env) (s : Shared) : FramV env s s := fun _ _ e _ _ _ => e
theorem FramV.trans {env : Env} {a b d : Shared} (x : FramV env a b) (y : FramV env b d) : FramV env a d := fun q o e t w w' => y q o (x q o e t w w') t w w'
theorem FramV.of_ext {env : Env} {s s' : Shared} (x : Ext s.heap s'.heap) : FramV env s s' := fun q o e t _ _ => x.keep q o e t
theorem FramV.of_loc {env : Env} {s s' : Shared} (x : Heap.ExtBut env.locals s.heap s'.heap) : FramV env s s' := fun q o e _ z _ => x q o z e
theorem FramV.of_cel {env : Env} {s s' : Shared} {y : Str} {a : Addr} (x : Heap.ExtBut a s.heap s'.heap) (h : env.cells.lookup y = some a) (k : env.kindOf y = some .cell) : FramV env s s' := fun q o e _ _ z => x q o (fun w => z ⟨y, w ▸ h, k⟩) e
theorem FramV.fram {c : Cx} {env : Env} {s s' : Shared} (x : FramV env s s') : Fram c env s s' := fun q o e t w => x q o e t (fun z => w (.inl z)) (fun z => w (.inr (.inl z)))
theorem FramV.lst {c : Cx} {env : Env} {s₀ s s' : Shared} {ρ : Vars} {a : Addr} {vs : List Value} {n : Nat} (f : FramV env s s') (S : Sta c env s₀ ρ s) (e : s.heap.get? a = some (lstObj vs n)) : s'.heap.get? a = some (lstObj vs n) := by
  refine f a _ e rfl (fun q => ?_) (fun ⟨y, hy, _⟩ => ?_)
  · obtain ⟨m, ⟨o', es, ep, e1, e2, _⟩, _⟩ := S.st.loc
    rw [← q, e] at e1; cases e1; cases e2
  · obtain ⟨v, o', e1, e2⟩ := S.st.own y a hy
    rw [e] at e1; cases e1; cases e2
theorem FramV.seq {c : Cx} {env : Env} {s₀ s s' : Shared} {ρ : Vars} (f : FramV env s s') (S : Sta c env s₀ ρ s) : SeqKeep [] s.heap s'.heap := by
  intro x o e t b _
  refine f x o e t (fun q => ?_) (fun ⟨y, hy, _⟩ => ?_)
  · obtain ⟨m, ⟨o', es, ep, e1, e2, _⟩, _⟩ := S.st.loc
    rw [← q, e] at e1; cases e1
    unfold bodyLike at b; rw [e2] at b; exact b
  · obtain ⟨v, o', e1, e2⟩ := S.st.own y x hy
    rw [e] at e1; cases e1
    unfold bodyLike at b; rw [e2] at b; exact b

theorem Fram.seq {c : Cx} {env : Env} {s₀ s s' : Shared} {ρ : Vars} (f : Fram c env s s') (S : Sta c env s₀ ρ s) : SeqKeep c.X s.heap s'.heap := by
  intro x o e t b hx
  refine f x o e t fun w => ?_
  rcases w with rfl | ⟨y, hy, _⟩ | w
  · obtain ⟨m, ⟨o', es, ep, e1, e2, _⟩, _⟩ := S.st.loc
    rw [e1] at e; cases e
    unfold bodyLike at b; rw [e2] at b; exact b
  · obtain ⟨v, o', e1, e2⟩ := S.st.own y x hy
    rw [e1] at e; cases e
    unfold bodyLike at b; rw [e2] at b; exact b
  · exact hx w

def Ex (c : Cx) (env : Env) (s₀ : Shared) (n : Nat) (ρ : Vars) (b : List Stmt) (P : Flow → Shared → Prop) : Prop :=
  ∀ A s, Room A n → Sta c env s₀ ρ s → wpAny c.M A (execs b env) (fun f s' => Fram c env s s' ∧ P f s') Never s

theorem Ex.less {c : Cx} {env : Env} {s₀ : Shared} {n : Nat} {ρ ρ' : Vars} {b : List Stmt} {P : Flow → Shared → Prop} (h : Ex c env s₀ n ρ' b P) (x : ∀ y d, ρ'.lookup y = some d → ρ.lookup y = some d) : Ex c env s₀ n ρ b P :=
  fun A s R S => h A s R (S.less x)
theorem Ex.mono {c : Cx} {env : Env} {s₀ : Shared} {n : Nat} {ρ : Vars} {b : List Stmt} {P P' : Flow → Shared → Prop} (h : Ex c env s₀ n ρ b P) (x : ∀ f s, P f s → P' f s) : Ex c env s₀ n ρ b P' :=
  fun A s R S => wpAny_mono (h A s R S) (fun f s q => ⟨q.1, x f s q.2⟩) fun _ _ z => z

/-- storing under a name -/
def Bnd (c : Cx) (env : Env) (s₀ : Shared) (t : Sem Unit) (ρ' : Vars) (A : Around) (s : Shared) : Prop := wpAny c.M A t (fun _ s' => FramV env s s' ∧ Sta c env s₀ ρ' s') Never s

theorem store_name {c : Cx} {env : Env} {s₀ s : Shared} {ρ : Vars} {A : Around} {x : Str} {v : Value} {d : D} (F : Frm c env s₀) (S : Sta c env s₀ ρ s) (r : Rep c.X s.heap v d)
    (hk : env.kindOf x = some .local ∨ (env.kindOf x = some .cell ∧ ∃ a, env.cells.lookup x = some a ∧ s₀.heap.get? a = none)) (hx : x ≠ "_headers") : Bnd c env s₀ (storeName env x v) ((x, d) :: ρ) A s := by
  rcases hk with hk | ⟨hk, a, ha, hf⟩
  · obtain ⟨m, hn, hm, _⟩ := S.st.loc
    refine wpAny_storeName_local hk hn (fun h' hn' hs => ?_) (by rw [F.kind]; rfl)
    refine ⟨.of_loc hs.extBut, S.inv.chg hs.extBut (F.base _ F.loc) (ns_soft hn) (fun hx => absurd hx (ns_notX S.inv hn)), ext_same S.ext F.loc hs.extBut, S.st.set_local hn hn' hs hk hx r, by rw [S.sh]⟩
  · obtain ⟨v₀, hv⟩ := S.st.own x a ha
    refine wpAny_storeName_cell F.kind hk ha hv fun h' hn' hs => ?_
    refine ⟨.of_cel hs.extBut ha hk, S.inv.chg hs.extBut (F.base _ hf) (cell_soft hv) (fun hx => absurd hx (cell_notX S.inv hv)), ext_same S.ext hf hs.extBut, S.st.set_cell ha hn' hs hk F.apart r, by rw [S.sh]⟩

/-- how a name is kept -/
def NmOk (env : Env) (s₀ : Shared) (x : Str) : Prop := (env.kindOf x = some .local ∨ (env.kindOf x = some .cell ∧ ∃ a, env.cells.lookup x = some a ∧ s₀.heap.get? a = none)) ∧ x ≠ "_headers"
theorem NmOk.loc {env : Env} {s₀ : Shared} {x : Str} (h : env.kindOf x = some .local := by rfl) (hx : x ≠ "_headers" := by decide) : NmOk env s₀ x := ⟨.inl h, hx⟩
theorem NmOk.cel {env : Env} {s₀ : Shared} {x : Str} {a : Addr} (hf : s₀.heap.get? a = none) (h : env.kindOf x = some .cell := by rfl) (ha : env.cells.lookup x = some a := by rfl) (hx : x ≠ "_headers" := by decide) : NmOk env s₀ x := ⟨.inr ⟨h, a, ha, hf⟩, hx⟩

/-- a target takes a datum -/
def Tgt (c : Cx) (env : Env) (s₀ : Shared) (n : Nat) (t : PySem.Expr) (d : D) (ρ ρ' : Vars) : Prop :=
  ∀ A s v, Room A n → Sta c env s₀ ρ s → Rep c.X s.heap v d → Bnd c env s₀ (assign t env v) ρ' A s
theorem Tgt.name {c : Cx} {env : Env} {s₀ : Shared} {n : Nat} {x : Str} {pos : Pos} {d : D} {ρ : Vars} (F : Frm c env s₀) (k : NmOk env s₀ x) : Tgt c env s₀ n (.Name x pos) d ρ ((x, d) :: ρ) := by
  intro A s v R S r
  exact PySem.wpAny_assign_Name (store_name F S r k.1 k.2)

/-- several targets, one after the other -/
def Tgts (c : Cx) (env : Env) (s₀ : Shared) (n : Nat) (ts : List PySem.Expr) (ds : List D) (ρ ρ' : Vars) : Prop :=
  ∀ A s vs, Room A n → Sta c env s₀ ρ s → Reps c.X s.heap vs ds → Bnd c env s₀ (assignInOrder ((assignEach ts env).map (·.2)) vs) ρ' A s
theorem Tgts.nil {c : Cx} {env : Env} {s₀ : Shared} {n : Nat} {ρ : Vars} : Tgts c env s₀ n [] [] ρ ρ := by
  intro A s vs R S r
  cases r
  exact wpAny_pure ⟨.refl _ _, S⟩
theorem Tgts.cons {c : Cx} {env : Env} {s₀ : Shared} {n : Nat} {x : Str} {pos : Pos} {ts : List PySem.Expr} {d : D} {ds : List D} {ρ ρ' : Vars} (F : Frm c env s₀) (k : NmOk env s₀ x) (hs : Tgts c env s₀ n ts ds ((x, d) :: ρ) ρ') :
    Tgts c env s₀ n (.Name x pos :: ts) (d :: ds) ρ ρ' := by
  intro A s vs R S r
  cases r with
  | @cons v vs _ _ r1 r2 =>
    show wpAny c.M A (do holding vs (assign (.Name x pos) env v); assignInOrder ((assignEach ts env).map (·.2)) vs) _ _ s
    refine wpAny_bind (wpAny_holding ?_)
    -- the rest of the items stands for the same data behind the store
    have st := store_name (A := A) F S r1 k.1 k.2
    refine PySem.wpAny_assign_Name ?_
    rcases k.1 with hk | ⟨hk, a, ha, hf⟩
    · obtain ⟨m, hn, hm, _⟩ := S.st.loc
      refine wpAny_storeName_local hk hn (fun h' hn' hs' => ?_) (by rw [F.kind]; rfl)
      have S' : Sta c env s₀ ((x, d) :: ρ) { s with heap := h', toks := s.toks + 1 } := by
        refine ⟨S.inv.chg hs'.extBut (F.base _ F.loc) (ns_soft hn) (fun hx => absurd hx (ns_notX S.inv hn)), ext_same S.ext F.loc hs'.extBut, S.st.set_local hn hn' hs' hk k.2 r1, by rw [S.sh]⟩
      exact wpAny_mono (hs A _ vs R S' (r2.chg hs'.extBut (ns_harmless hn hm))) (fun _ _ q => ⟨.trans (.of_loc hs'.extBut) q.1, q.2⟩) fun _ _ z => z
    · obtain ⟨v₀, hv⟩ := S.st.own x a ha
      refine wpAny_storeName_cell F.kind hk ha hv fun h' hn' hs' => ?_
      have S' : Sta c env s₀ ((x, d) :: ρ) { s with heap := h' } := by
        refine ⟨S.inv.chg hs'.extBut (F.base _ hf) (cell_soft hv) (fun hx => absurd hx (cell_notX S.inv hv)), ext_same S.ext hf hs'.extBut, S.st.set_cell ha hn' hs' hk F.apart r1, by rw [S.sh]⟩
      exact wpAny_mono (hs A _ vs R S' (r2.chg hs'.extBut (cell_harmless hv))) (fun _ _ q => ⟨.trans (.of_cel hs'.extBut ha hk) q.1, q.2⟩) fun _ _ z => z

theorem Tgt.tuple {c : Cx} {env : Env} {s₀ : Shared} {n : Nat} {ts : List PySem.Expr} {k : Nat} {pos : Pos} {ds : List D} {ρ ρ' : Vars} (hs : Tgts c env s₀ n ts ds ρ ρ') (hn : (assignEach ts env).length = ds.length := by rfl)
    (hstar : (assignEach ts env).findIdx? (·.1) = none := by rfl) : Tgt c env s₀ n (.Tuple ts k pos) (.tup ds) ρ ρ' := by
  intro A s v R S r
  rcases r.isTup with ⟨_, _, _, rfl, e, r⟩
  ·
    refine wpAny_assign_Tuple R.hd (tup_isTuple e) (by rw [hn, List.size_toArray, r.length]) hstar fun h' x => ?_
    have st : Stp c s { s with heap := h' } := ⟨S.inv.keeps fun b o e => x b o (fun q => by rw [q, get?_size] at e; cases e) e, .of_keep fun b o e => x b o (fun q => by rw [q, get?_size] at e; cases e) e, rfl⟩
    exact wpAny_mono (hs A _ _ R (S.step st) (r.ext st.ext)) (fun _ _ q => ⟨.trans (.of_ext st.ext) q.1, q.2⟩) fun _ _ z => z

/-! the statements -/
theorem Ex.nil {c : Cx} {env : Env} {s₀ : Shared} {n : Nat} {ρ : Vars} {P : Flow → Shared → Prop} (h : ∀ s, Sta c env s₀ ρ s → P .next s) : Ex c env s₀ n ρ [] P := fun A s R S => wpAny_execs_nil ⟨.refl _ _ _, h s S⟩

theorem Ex.assign {c : Cx} {env : Env} {s₀ : Shared} {n : Nat} {ρ : Vars} {x : Str} {p pos : Pos} {e : PySem.Expr} {d : D} {rest : List Stmt} {P : Flow → Shared → Prop} (F : Frm c env s₀) (k : NmOk env s₀ x) (h : Ev c env n ρ e d)
    (hr : Ex c env s₀ n ((x, d) :: ρ) rest P) (hs : swapsWith e (some (.Name x p)) pos.line env = pure false := by rfl) : Ex c env s₀ n ρ (.Assign [.Name x p] e pos :: rest) P := by
  intro A s R S
  refine wpAny_execs_cons (wpAny_Assign_Name ((h A s R S.inv S.st).use fun v s₁ st r => ?_) hs)
  exact wpAny_mono (store_name F (S.step st) r k.1 k.2) (fun _ s₂ S₂ => wpAny_mono (hr A s₂ R S₂.2) (fun _ _ q => ⟨((Fram.of_ext st.ext).trans S₂.1.fram).trans q.1, q.2⟩) fun _ _ z => z) fun _ _ z => z.elim

theorem Ex.assignT {c : Cx} {env : Env} {s₀ : Shared} {n : Nat} {ρ ρ' : Vars} {ts : List PySem.Expr} {k : Nat} {tp pos : Pos} {e : PySem.Expr} {d : D} {rest : List Stmt} {P : Flow → Shared → Prop} (h : Ev c env n ρ e d)
    (t : Tgt c env s₀ n (.Tuple ts k tp) d ρ ρ') (hr : Ex c env s₀ n ρ' rest P) (hs : swapsWithSole [.Tuple ts k tp] e pos.line env = pure false := by rfl)
    (hw : swappedStores [.Tuple ts k tp] e env = pure none := by rfl) : Ex c env s₀ n ρ (.Assign [.Tuple ts k tp] e pos :: rest) P := by
  intro A s R S
  refine wpAny_execs_cons (Assign_Tuple ((h A s R S.inv S.st).use fun v s₁ st r => ?_) hs hw)
  exact wpAny_mono (t A s₁ v R (S.step st) r) (fun _ s₂ S₂ => wpAny_mono (hr A s₂ R S₂.2) (fun _ _ q => ⟨((Fram.of_ext st.ext).trans S₂.1.fram).trans q.1, q.2⟩) fun _ _ z => z) fun _ _ z => z.elim

/-- names stored in the order the machine has for «a, b = x, y» -/
def Names (c : Cx) (env : Env) (s₀ : Shared) (n : Nat) (xs : List Str) (ds : List D) (ρ ρ' : Vars) : Prop :=
  ∀ A s vs, Room A n → Sta c env s₀ ρ s → Reps c.X s.heap vs ds → Bnd c env s₀ (assignInOrder (xs.map fun x => bindName env x) vs) ρ' A s
theorem Names.nil {c : Cx} {env : Env} {s₀ : Shared} {n : Nat} {ρ : Vars} : Names c env s₀ n [] [] ρ ρ := by
  intro A s vs R S r
  cases r
  exact wpAny_pure ⟨.refl _ _, S⟩
theorem Names.cons {c : Cx} {env : Env} {s₀ : Shared} {n : Nat} {x : Str} {ts : List Str} {d : D} {ds : List D} {ρ ρ' : Vars} (F : Frm c env s₀) (hk : env.kindOf x = some .local) (hx : x ≠ "_headers") (hs : Names c env s₀ n ts ds ((x, d) :: ρ) ρ') :
    Names c env s₀ n (x :: ts) (d :: ds) ρ ρ' := by
  intro A s vs R S r
  cases r with
  | @cons v vs _ _ r1 r2 =>
    show wpAny c.M A (do holding vs (bindName env x v); assignInOrder (ts.map fun x => bindName env x) vs) _ _ s
    refine wpAny_bind (wpAny_holding (PySem.wpAny_bindName ?_))
    obtain ⟨m, hn, hm, _⟩ := S.st.loc
    refine wpAny_storeName_local hk hn (fun h' hn' hs' => ?_) (by rw [F.kind]; rfl)
    have S' : Sta c env s₀ ((x, d) :: ρ) { s with heap := h', toks := s.toks + 1 } := by
      refine ⟨S.inv.chg hs'.extBut (F.base _ F.loc) (ns_soft hn) (fun hx => absurd hx (ns_notX S.inv hn)), ext_same S.ext F.loc hs'.extBut, S.st.set_local hn hn' hs' hk hx r1, by rw [S.sh]⟩
    exact wpAny_mono (hs A _ vs R S' (r2.chg hs'.extBut (ns_harmless hn hm))) (fun _ _ q => ⟨.trans (.of_loc hs'.extBut) q.1, q.2⟩) fun _ _ z => z
theorem Reps.reverse {X : List Addr} {h : Heap} {vs : List Value} {ds : List D} (r : Reps X h vs ds) : Reps X h vs.reverse ds.reverse := by
  have ap : ∀ {a : List Value} {b : List Value} {x y : List D}, Reps X h a x → Reps X h b y → Reps X h (a ++ b) (x ++ y) := by
    intro a
    induction a with
    | nil => intro b x y p q; cases p; exact q
    | cons v a ih => intro b x y p q; cases p with | cons p1 p2 => exact .cons p1 (ih p2 q)
  induction vs generalizing ds with
  | nil => cases r; exact .nil
  | cons v vs ih => cases r with | cons r1 r2 => rw [List.reverse_cons, List.reverse_cons]; exact ap (ih r2) (.cons r1 .nil)

theorem Ex.assignS {c : Cx} {env : Env} {s₀ : Shared} {n : Nat} {ρ ρ' : Vars} {ts : List PySem.Expr} {k : Nat} {tp pos : Pos} {e : PySem.Expr} {ds : List D} {xs : List Str} {rest : List Stmt} {P : Flow → Shared → Prop} (h : Ev c env n ρ e (.tup ds))
    (t : Names c env s₀ n xs.reverse ds.reverse ρ ρ') (hr : Ex c env s₀ n ρ' rest P) (hl : xs.length = ds.length := by rfl) (hs : swapsWithSole [.Tuple ts k tp] e pos.line env = pure false := by rfl)
    (hw : swappedStores [.Tuple ts k tp] e env = pure (some xs) := by rfl) : Ex c env s₀ n ρ (.Assign [.Tuple ts k tp] e pos :: rest) P := by
  intro A s R S
  refine wpAny_execs_cons (Assign_Tuple_swapped ((h A s R S.inv S.st).use fun v s₁ st r => ?_) hs hw)
  rcases r.isTup with ⟨_, _, _, rfl, e, r⟩
  ·
    rw [hl, ← r.length]
    have hsz : ∀ vs : List Value, vs.length = vs.toArray.size := fun vs => (List.size_toArray ..).symm
    rw [hsz]
    refine wpAny_unpackItems_tuple R.hd (tup_isTuple e) fun h' x => ?_
    have st' : Stp c s₁ { s₁ with heap := h' } := ⟨st.inv.keeps fun b o e => x b o (fun q => by rw [q, get?_size] at e; cases e) e, .of_keep fun b o e => x b o (fun q => by rw [q, get?_size] at e; cases e) e, rfl⟩
    exact wpAny_mono (t A _ _ R ((S.step st).step st') (r.ext st'.ext).reverse) (fun _ s₂ S₂ => wpAny_mono (hr A s₂ R S₂.2) (fun _ _ q => ⟨((Fram.of_ext (st.trans st').ext).trans S₂.1.fram).trans q.1, q.2⟩) fun _ _ z => z) fun _ _ z => z.elim

theorem Ex.ret {c : Cx} {env : Env} {s₀ : Shared} {n : Nat} {ρ : Vars} {e : PySem.Expr} {pos : Pos} {d : D} {rest : List Stmt} {P : Flow → Shared → Prop} (h : Ev c env n ρ e d) (hP : ∀ v s, Sta c env s₀ ρ s → Rep c.X s.heap v d → P (.ret v) s) :
    Ex c env s₀ n ρ (.Return (some e) pos :: rest) P := by
  intro A s R S
  exact wpAny_execs_cons (wpAny_Return_some ((h A s R S.inv S.st).use fun v s₁ st r => ⟨.of_ext st.ext, hP v s₁ (S.step st) r⟩))

theorem Ex.if_ {c : Cx} {env : Env} {s₀ : Shared} {n : Nat} {ρ : Vars} {t : PySem.Expr} {x y : List Stmt} {pos : Pos} {b : Bool} {rest : List Stmt} {P : Flow → Shared → Prop} (h : Tru c env n ρ t b)
    (h1 : b = true → Ex c env s₀ n ρ x (fun f s => match f with | .next => ∃ ρ', Sta c env s₀ ρ' s ∧ Ex c env s₀ n ρ' rest P | f => P f s))
    (h2 : b = false → Ex c env s₀ n ρ y (fun f s => match f with | .next => ∃ ρ', Sta c env s₀ ρ' s ∧ Ex c env s₀ n ρ' rest P | f => P f s)) : Ex c env s₀ n ρ (.If t x y pos :: rest) P := by
  intro A s R S
  refine wpAny_execs_cons (wpAny_If (wpAny_mono (h A s R S.inv S.st) (fun r s₁ z => ?_) fun _ _ z => z))
  obtain ⟨z, rfl⟩ := z
  have S₁ := S.step z
  have go : ∀ {u : List Stmt}, Ex c env s₀ n ρ u (fun f s => match f with | .next => ∃ ρ', Sta c env s₀ ρ' s ∧ Ex c env s₀ n ρ' rest P | f => P f s) →
      wpAny c.M A (execs u env) (fun f s' => match f with | .next => wpAny c.M A (execs rest env) (fun f s'' => Fram c env s s'' ∧ P f s'') Never s' | f => Fram c env s s' ∧ P f s') Never s₁ := by
    intro u hu
    refine wpAny_mono (hu A s₁ R S₁) (fun f s₂ q => ?_) fun _ _ z => z
    have fr := (Fram.of_ext (c := c) (env := env) z.ext).trans q.1
    cases f with
    | next => obtain ⟨q1, ρ', S', e'⟩ := q; exact wpAny_mono (e' A s₂ R S') (fun _ _ w => ⟨fr.trans w.1, w.2⟩) fun _ _ z => z
    | _ => exact ⟨fr, q.2⟩
  cases r with
  | true => exact go (h1 rfl)
  | false => exact go (h2 rfl)

/-! ## Loops -/
theorem letOwned {c : Cx} {A : Around} {E : Value → Shared → Prop} {s : Shared} {target : PySem.Expr} {a : Addr} {v : Value} {ds : List D} {Q : Unit → Shared → Prop} (it : ItAt c.X s.heap a ds) (h : Q () s) : wpAny c.M A (letOwnedTupleGo target (.ref a) v) Q E s := by
  have go : wpAny c.M A (do
      let (.ref r, .ref b) := ((Value.ref a, v) : Value × Value) | return
      let o ← load r
      match o.cls, o.data with
      | .type n, .fields vs =>
        if ["enumerate", "zip", "dict_itemiterator", "dict_reverseitemiterator", "odict_iterator", "itertools.zip_longest", "itertools.pairwise"].contains n && vs[0]? == some (rawInt b) then
          rule "for.unpacks-the-owned-tuple"
          updateField r 0 .none
      | _, _ => pure ()) Q E s := by
    cases v with
    | ref b =>
      have key : ∃ o T vs, s.heap.get? a = some o ∧ o.cls = .type T ∧ o.data = .fields vs ∧ ["enumerate", "zip", "dict_itemiterator", "dict_reverseitemiterator", "odict_iterator", "itertools.zip_longest", "itertools.pairwise"].contains T = false := by
        cases it with
        | lst e _ _ _ => obtain ⟨o, e1, e2, e3⟩ := e; exact ⟨o, _, _, e1, e2, e3, by decide⟩
        | tup e _ _ => obtain ⟨o, e1, e2, e3⟩ := e; exact ⟨o, _, _, e1, e2, e3, by decide⟩
        | rng e => exact ⟨_, _, _, e, rfl, rfl, by decide⟩
        | rev e _ _ _ _ => obtain ⟨o, e1, e2, e3⟩ := e; exact ⟨o, _, _, e1, e2, e3, by decide⟩
      obtain ⟨o, T, vs, e1, e2, e3, e4⟩ := key
      refine wpAny_bind (wpAny_load e1 ?_)
      rw [e2, e3]
      dsimp only
      rw [e4]
      exact wpAny_pure h
    | _ => exact wpAny_pure h
  unfold letOwnedTupleGo
  split
  · exact go
  · exact go
  · exact wpAny_pure h

/-- a for loop over data: J says what holds of the names while ds is still to come -/
theorem Ex.for_ {c : Cx} {env : Env} {s₀ : Shared} {n : Nat} {ρ : Vars} {target iter : PySem.Expr} {body rest : List Stmt} {pos : Pos} {ds : List D} {P : Flow → Shared → Prop} (F : Frm c env s₀)
    (J : List D → Vars → Prop) (hsrc : Src c env n ρ iter ds) (h0 : J ds ρ)
    (turn : ∀ d ds ρ₁, J (d :: ds) ρ₁ → ∃ ρ₂, Tgt c env s₀ n target d ρ₁ ρ₂ ∧ Ex c env s₀ n ρ₂ body (fun f s => match f with
      | .next => ∃ ρ₃, J ds ρ₃ ∧ Sta c env s₀ ρ₃ s
      | .cont => ∃ ρ₃, J ds ρ₃ ∧ Sta c env s₀ ρ₃ s
      | .brk => False
      | .ret v => P (.ret v) s))
    (done : ∀ ρ₁, J [] ρ₁ → Ex c env s₀ n ρ₁ rest P) (hp : D.plains ds = true)
    (hfs : ∀ x, foldedSetIterable iter env x = pure x := by intro _; rfl) : Ex c env s₀ n ρ (.For target iter body [] pos :: rest) P := by
  intro A s R S
  refine wpAny_execs_cons (wpAny_For (wpAny_mono (hsrc A s R S.inv S.st) (fun x s₁ hx => wpAny_mono hx.2 (fun it s₂ h2 => ?_) fun _ _ z => z.elim) fun _ _ z => z) hfs)
  obtain ⟨a, rfl, st, ha, it⟩ := h2
  have S₂ := S.step st
  have ha0 : s₀.heap.get? a = none := S.ext.none ha
  refine codeAny_forLoop_any (I := fun k s' => ∃ ds' ρ', k = ds'.length + 1 ∧ J ds' ρ' ∧ D.plains ds' = true ∧ ItAt c.X s'.heap a ds' ∧ Sta c env s₀ ρ' s' ∧ Fram c env s s') ?_ (ds.length + 1) ⟨ds, ρ, rfl, h0, hp, it, S₂, .of_ext st.ext⟩
  rintro k s' ⟨ds', ρ', rfl, hJ, hp', it', S', fr⟩
  have frIt : ∀ {h' : Heap} {tk : Nat}, Heap.ExtBut a s'.heap h' → Fram c env s { s' with heap := h', toks := tk } := fun hx b o e t w => hx b o (fun q => by rw [q, ha] at e; cases e) (fr b o e t w)
  cases ds' with
  | nil =>
    refine it'.stop R.hd fun h' hx => ?_
    refine wpAny_execs_nil ?_
    exact wpAny_mono (done ρ' hJ A _ R (S'.iter (tk := s'.toks) F it'.obj ha0 hx)) (fun _ _ q => ⟨(frIt hx).trans q.1, q.2⟩) fun _ _ q => q
  | cons d ds' =>
    rw [D.plains, Bool.and_eq_true] at hp'
    obtain ⟨ρ₂, t, b⟩ := turn d ds' ρ' hJ
    refine it'.next fun v h' tk htk hs it₂ r => ?_
    refine letOwned it₂ ?_
    have S₃ : Sta c env s₀ ρ' { s' with heap := h', toks := tk } := S'.iter F it'.obj ha0 hs.extBut
    have f₃ := frIt (tk := tk) hs.extBut
    refine wpAny_mono (t A _ v R S₃ r) (fun _ s₄ h₄ => ?_) fun _ _ z => z.elim
    refine wpAny_mono (b A s₄ R h₄.2) (fun f s₅ h₅ => ?_) fun _ _ z => z.elim
    have f₅ := (f₃.trans h₄.1.fram).trans h₅.1
    have it₅ : ItAt c.X s₅.heap a ds' := ItAt.fram ((Fram.trans h₄.1.fram h₅.1).seq S₃) S₃.inv.av it₂ hp'.2
    cases f with
    | next => obtain ⟨ρ₃, j, S₅⟩ := h₅.2; exact ⟨ds'.length + 1, by simp, ds', ρ₃, rfl, j, hp'.2, it₅, S₅, f₅⟩
    | cont => obtain ⟨ρ₃, j, S₅⟩ := h₅.2; exact ⟨ds'.length + 1, by simp, ds', ρ₃, rfl, j, hp'.2, it₅, S₅, f₅⟩
    | brk => exact h₅.2.elim
    | ret v => exact ⟨f₅, h₅.2⟩

/-! ## Lists that are filled -/
def Cx.own (c : Cx) (a : Addr) : Cx := { c with X := a :: c.X }

theorem append_exact {prog : Program} {w : World} {A : Around} {E : Value → Shared → Prop} {s : Shared} {l : Addr} {vs : List Value} {n : Nat} {x : Value} {Q : Value → Shared → Prop} (ho : s.heap.get? l = some (lstObj vs n)) (hsz : vs.length ≤ 1000)
    (hQ : ∀ h', h'.get? l = some (lstObj (vs ++ [x]) (n + 1)) → Heap.SameBut l s.heap h' → Q .none { s with heap := h' }) : wpAny (model prog w) A (call (.builtin "list.append") [.ref l, x]) Q E s := by
  have hl := lst_isList ho
  refine wpAny_call_entry slot_list_append hl.typeIs entry_list_append ?_ (args_list_append _ _)
  show wpAny _ _ (updateSeq l (·.push x) >>= fun _ => ret .none) _ _ s
  refine wpAny_bind ?_
  refine wpAny_updateSeq ho rfl (wpAny_pure ⟨.none, rfl, hQ _ ?_ (Heap.SameBut.update ..)⟩) (by rw [List.size_toArray]; exact Nat.le_trans hsz (by decide))
  have e : Obj.mapSeq (·.push x) (lstObj vs n) = lstObj (vs ++ [x]) (n + 1) := by
    simp only [Obj.mapSeq, lstObj]
    congr 1
    simp
  rw [Heap.get?_update_self _ ho (by rw [e]; rfl), e]

def VOff (a : Addr) (ρ : Vars) : Prop := ∀ x d, ρ.lookup x = some d → d.off a = true
theorem VOff.cons {a : Addr} {ρ : Vars} {x : Str} {d : D} (h : VOff a ρ) (hd : d.off a = true) : VOff a ((x, d) :: ρ) := by
  intro y d' e
  rw [List.lookup_cons] at e
  cases q : y == x with
  | true => rw [q] at e; cases e; exact hd
  | false => rw [q] at e; exact h y d' e

theorem St.put {X : List Addr} {env : Env} {ρ : Vars} {h h' : Heap} {a : Addr} {vs : List Value} {n : Nat} (S : St X env ρ h) (ha : h.get? a = some (lstObj vs n)) (hX : a ∈ X) (hs : Heap.ExtBut a h h') (ho : VOff a ρ) : St X env ρ h' := by
  obtain ⟨⟨m, hn, hm, hl'⟩, hc', ho', hk⟩ := S
  have hl : a ≠ env.locals := by
    rintro rfl
    obtain ⟨o, es, ep, e1, e2, _⟩ := hn
    rw [ha] at e1; cases e1; cases e2
  have hc : ∀ {b v}, h.IsCell b v → b ≠ a := by
    rintro b v ⟨o, e1, e2⟩ rfl
    rw [ha] at e1; cases e1; cases e2
  refine ⟨⟨m, hn.extBut hs (Ne.symm hl), hm, fun y d e k => ?_⟩, fun y d e k => ?_, fun y b e => ?_, hk⟩
  · obtain ⟨v, h1, h2⟩ := hl' y d e k
    exact ⟨v, h1, h2.put ha hX hs (ho y d e)⟩
  · obtain ⟨b, v, h1, h2, h3⟩ := hc' y d e k
    have := hc h2
    obtain ⟨o, e1, e2⟩ := h2
    exact ⟨b, v, h1, ⟨o, hs _ _ this e1, e2⟩, h3.put ha hX hs (ho y d e)⟩
  · obtain ⟨v, h1⟩ := ho' y b e
    have := hc h1
    obtain ⟨o, e1, e2⟩ := h1
    exact ⟨v, o, hs _ _ this e1, e2⟩

/-- the state while a list is filled -/
structure CSt (c : Cx) (env : Env) (s₀ : Shared) (acc : Addr) (ρ : Vars) (out : List D) (s : Shared) : Prop where
  sta : Sta (c.own acc) env s₀ ρ s
  lst : ∃ vs m, s.heap.get? acc = some (lstObj vs m) ∧ Reps (acc :: c.X) s.heap vs out
  fresh : s₀.heap.get? acc = none

theorem Reps.snoc {X : List Addr} {h : Heap} : ∀ {vs : List Value} {ds : List D} {v : Value} {d : D}, Reps X h vs ds → Rep X h v d → Reps X h (vs ++ [v]) (ds ++ [d])
  | _, _, _, _, .nil, r => .cons r .nil
  | _, _, _, _, .cons a b, r => .cons a (b.snoc r)
theorem Reps.app {X : List Addr} {h : Heap} : ∀ {vs us : List Value} {ds es : List D}, Reps X h vs ds → Reps X h us es → Reps X h (vs ++ us) (ds ++ es)
  | _, _, _, _, .nil, r => r
  | _, _, _, _, .cons a b, r => .cons a (b.app r)

/-- what is sure of the frame -/
theorem CSt.append {c : Cx} {env : Env} {s₀ s : Shared} {acc : Addr} {ρ : Vars} {out : List D} {v : Value} {d : D} {A : Around} (F : Frm (c.own acc) env s₀) (C : CSt c env s₀ acc ρ out s) (r : Rep (acc :: c.X) s.heap v d) (hd : d.off acc = true)
    (ho : D.offs acc out = true) (hρ : VOff acc ρ) (hl : out.length ≤ 1000) :
    wpAny c.M A (call (.builtin "list.append") [.ref acc, v]) (fun _ s' => CSt c env s₀ acc ρ (out ++ [d]) s' ∧ Fram (c.own acc) env s s') Never s := by
  obtain ⟨vs, m, e, rs⟩ := C.lst
  refine append_exact e (by rw [rs.length]; exact hl) fun h' e' hs => ?_
  have hX : acc ∈ (c.own acc).X := List.mem_cons_self
  refine ⟨⟨⟨?_, ext_same C.sta.ext C.fresh hs.extBut, C.sta.st.put e hX hs.extBut hρ, by rw [C.sta.sh]⟩, ⟨_, _, e', (rs.put e hX hs.extBut ho).snoc (r.put e hX hs.extBut hd)⟩, C.fresh⟩, .of_but hs.extBut (.inr (.inr hX))⟩
  exact C.sta.inv.chg hs.extBut (F.base _ C.fresh) (fun o q => by rw [e] at q; cases q; rfl) fun _ => ⟨_, _, e'⟩

/-! ## Comprehensions -/
def CBody (c : Cx) (env : Env) (s₀ : Shared) (n : Nat) (acc : Addr) (t : Sem Unit) (ρ : Vars) (outs : List D) : Prop :=
  ∀ A s out, Room A n → CSt c env s₀ acc ρ out s → (out ++ outs).length ≤ 1000 → D.plains out = true →
    wpAny c.M A t (fun _ s' => CSt c env s₀ acc ρ (out ++ outs) s' ∧ Fram (c.own acc) env s s') Never s

theorem CBody.emit {c : Cx} {env : Env} {s₀ : Shared} {n : Nat} {acc : Addr} {elt : PySem.Expr} {ρ : Vars} {d : D} (F : Frm (c.own acc) env s₀) (h : Ev (c.own acc) env n ρ elt d) (hd : d.plain = true) (hρ : VOff acc ρ) :
    CBody c env s₀ n acc (do let _ ← call (.builtin "list.append") [.ref acc, ← eval elt env]) ρ [d] := by
  intro A s out R C hl ho
  have hg : Gives (c.own acc) A (eval elt env) d s := h A s R C.sta.inv C.sta.st
  refine wpAny_bind (Gives.use (c := c.own acc) hg fun v s₁ x r => ?_)
  obtain ⟨vs, m, e, rs⟩ := C.lst
  have C₁ : CSt c env s₀ acc ρ out s₁ := ⟨C.sta.step x, ⟨vs, m, x.ext.keep _ _ e rfl, rs.ext x.ext⟩, C.fresh⟩
  refine wpAny_bind (wpAny_mono (CSt.append F C₁ r (D.plain_off acc d hd) (D.plains_off acc out ho) hρ (by simp at hl; omega)) (fun _ s₂ q => ?_) fun _ _ z => z)
  exact wpAny_pure ⟨q.1, (Fram.of_ext x.ext).trans q.2⟩

theorem CSt.less {c : Cx} {env : Env} {s₀ s : Shared} {acc : Addr} {ρ ρ' : Vars} {out : List D} (C : CSt c env s₀ acc ρ out s) (x : ∀ y d, ρ'.lookup y = some d → ρ.lookup y = some d) : CSt c env s₀ acc ρ' out s := ⟨C.sta.less x, C.lst, C.fresh⟩

theorem offs_append (a : Addr) (x y : List D) : D.offs a (x ++ y) = (D.offs a x && D.offs a y) := by rw [offs_all, offs_all, offs_all, List.all_append]
theorem plains_append (x y : List D) : D.plains (x ++ y) = (D.plains x && D.plains y) := by rw [plains_all, plains_all, plains_all, List.all_append]
theorem plains_map {α : Type} {g : α → D} {xs : List α} (h : ∀ x ∈ xs, (g x).plain = true) : D.plains (xs.map g) = true := by
  rw [plains_all, List.all_eq_true]
  intro d hd
  obtain ⟨x, hx, rfl⟩ := List.mem_map.mp hd
  exact h x hx
theorem plains_flatMap {α : Type} {f : α → List D} {xs : List α} (h : ∀ x ∈ xs, D.plains (f x) = true) : D.plains (xs.flatMap f) = true := by
  rw [plains_all, List.all_eq_true]
  intro d hd
  obtain ⟨x, hx, hd⟩ := List.mem_flatMap.mp hd
  have := h x hx
  rw [plains_all, List.all_eq_true] at this
  exact this d hd

/-- Sta under an iterator, for the widened context -/
theorem CSt.iter {c : Cx} {env : Env} {s₀ s : Shared} {acc : Addr} {ρ : Vars} {out : List D} {a : Addr} {h' : Heap} {tk : Nat} (F : Frm (c.own acc) env s₀) (C : CSt c env s₀ acc ρ out s) (ob : ItObj s.heap a) (ha : s₀.heap.get? a = none) (hs : Heap.ExtBut a s.heap h') (htk : s.toks ≤ tk := by first | exact Nat.le_refl _ | assumption) :
    CSt c env s₀ acc ρ out { s with heap := h', toks := tk } := by
  obtain ⟨vs, m, e, rs⟩ := C.lst
  refine ⟨C.sta.iter F ob ha hs, ⟨vs, m, hs _ _ (fun q => ?_) e, rs.chg hs ob.quiet⟩, C.fresh⟩
  rw [q] at e
  exact harmless_lst (ob.quiet _ e)

/-- how one turn of a comprehension's loop goes -/
def TurnIs (c : Cx) (e : PySem.Expr) (k : Nat) (a acc : Addr) (env : Env) (target : PySem.Expr) (t : Sem Unit) : Prop :=
  ∀ (A : Around) (s : Shared) (Q : Fin → Shared → Prop) (E : Value → Shared → Prop), wpAny c.M A (pyNext (.ref a)) (fun r s₁ => match r with
    | none => Q (.done .next) s₁
    | some v => wpAny c.M A (letOwnedTupleGo target (.ref a) v) (fun _ s₂ => wpAny c.M A (assign target env v) (fun _ s₃ => wpAny c.M A t (fun _ s₄ => Q (.again (.compLoop e k (.ref a) (.ref acc) env)) s₄) E s₃) E s₂) E s₁) E s →
    wpAny c.M A (compTurn e k (.ref a) (.ref acc) env) Q E s

theorem cloop {α : Type} {c : Cx} {env : Env} {s₀ : Shared} {n : Nat} {acc a : Addr} {ρ : Vars} {elt target : PySem.Expr} {gens : List Comprehension} {scope : Scope} {pos : Pos} {k : Nat} {t : Sem Unit} (xs : List α) (g : α → D) (f : α → List D)
    (F : Frm (c.own acc) env s₀) (ha : s₀.heap.get? a = none)
    (hturn : TurnIs c (.ListComp elt gens scope pos) k a acc env target t)
    (turn : ∀ x ∈ xs, ∃ ρ₂, Tgt (c.own acc) env s₀ n target (g x) ρ ρ₂ ∧ (∀ y d, ρ.lookup y = some d → ρ₂.lookup y = some d) ∧ VOff acc ρ₂ ∧ CBody c env s₀ n acc t ρ₂ (f x))
    (hg : ∀ x ∈ xs, (g x).plain = true) (hf : ∀ x ∈ xs, D.plains (f x) = true) {A : Around} {sR s : Shared} {out : List D} (R : Room A n) (C : CSt c env s₀ acc ρ out s) (it : ItAt (acc :: c.X) s.heap a (xs.map g)) (hl : (out ++ xs.flatMap f).length ≤ 1000) (ho : D.plains out = true)
    (haR : sR.heap.get? a = none) (fr₀ : Fram (c.own acc) env sR s) :
    codeAny c.M A (.compLoop (.ListComp elt gens scope pos) k (.ref a) (.ref acc) env) (fun r s' => r = .ok .next ∧ CSt c env s₀ acc ρ (out ++ xs.flatMap f) s' ∧ Fram (c.own acc) env sR s') s := by
  refine codeAny_loop rfl (fun j s' => ∃ pre suf, xs = pre ++ suf ∧ j = suf.length + 1 ∧ ItAt (acc :: c.X) s'.heap a (suf.map g) ∧ CSt c env s₀ acc ρ (out ++ pre.flatMap f) s' ∧ Fram (c.own acc) env sR s') ?_ (xs.length + 1)
    ⟨[], xs, rfl, rfl, it, by simpa using C, fr₀⟩
  rintro j s' ⟨pre, suf, hx, rfl, it', C', fr⟩
  have frIt : ∀ {h' : Heap} {tk : Nat}, Heap.ExtBut a s'.heap h' → Fram (c.own acc) env sR { s' with heap := h', toks := tk } := fun hx b o e t w => hx b o (fun q => by rw [q, haR] at e; cases e) (fr b o e t w)
  show wpAny _ _ ((compTurn (.ListComp elt gens scope pos) k (.ref a) (.ref acc) env).onRaise (fun x => do noteFrame x env; theTreesLotGoes x)) _ _ s'
  refine wpAny_noted ?_
  refine hturn _ _ _ _ ?_
  cases suf with
  | nil =>
    refine ItAt.stop (c := c.own acc) R.hd it' fun h' hx' => ⟨rfl, ?_, frIt (tk := s'.toks) hx'⟩
    have : pre = xs := by rw [hx, List.append_nil]
    rw [← this]
    exact C'.iter (tk := s'.toks) F it'.obj ha hx'
  | cons x suf =>
    have hxm : x ∈ xs := by rw [hx]; simp
    obtain ⟨ρ₂, tg, sub, vo, cb⟩ := turn x hxm
    refine ItAt.next (c := c.own acc) it' fun v h' tk htk hs it₂ r => ?_
    refine letOwned (c := c.own acc) it₂ ?_
    have C₃ : CSt c env s₀ acc ρ (out ++ pre.flatMap f) { s' with heap := h', toks := tk } := C'.iter F it'.obj ha hs.extBut
    have f₃ := frIt (tk := tk) hs.extBut
    have hp : D.plains (suf.map g) = true := plains_map fun y hy => hg y (by rw [hx]; simp [hy])
    have hop : D.plains (pre.flatMap f) = true := plains_flatMap fun y hy => hf y (by rw [hx]; simp [hy])
    have ho' : D.plains (out ++ pre.flatMap f) = true := by rw [plains_append, ho, hop]; rfl
    refine wpAny_mono (tg A _ v R C₃.sta r) (fun _ s₄ h₄ => ?_) fun _ _ z => z.elim
    have C₄ : CSt c env s₀ acc ρ₂ (out ++ pre.flatMap f) s₄ := by
      obtain ⟨vs, m, e, rs⟩ := C₃.lst
      refine ⟨h₄.2, ⟨vs, m, FramV.lst h₄.1 C₃.sta e, ?_⟩, C₃.fresh⟩
      exact rs.fram (fun y o ey ty by' _ => (FramV.seq h₄.1 C₃.sta) y o ey ty by' List.not_mem_nil) C₃.sta.inv.av ho'
    refine wpAny_mono (cb A s₄ _ R C₄ ?_ ho') (fun _ s₅ h₅ => ?_) fun _ _ z => z.elim
    · refine Nat.le_trans ?_ hl
      rw [hx]
      simp
    · refine ⟨rfl, suf.length + 1, by simp, pre ++ [x], suf, by rw [hx]; simp, rfl, ?_, ?_, ?_⟩
      · exact ItAt.fram (Fram.seq (c := c.own acc) (Fram.trans h₄.1.fram h₅.2) C₃.sta) C₃.sta.inv.av it₂ hp
      · have e : out ++ (pre ++ [x]).flatMap f = out ++ pre.flatMap f ++ f x := by simp
        rw [e]
        exact h₅.1.less sub
      · exact (f₃.trans h₄.1.fram).trans h₅.2

/-! the shapes -/
theorem turn_one {c : Cx} {elt target iter : PySem.Expr} {scope : Scope} {pos : Pos} {a acc : Addr} {env : Env} :
    TurnIs c (.ListComp elt [⟨target, iter, [], 0⟩] scope pos) 0 a acc env target (do let _ ← call (.builtin "list.append") [.ref acc, ← eval elt env]) := by
  intro A s Q E h
  rw [compTurn_list1]
  refine wpAny_bind (wpAny_standAt (wpAny_bind (wpAny_mono h (fun r s₁ h₁ => ?_) fun _ _ z => z)))
  cases r with
  | none => exact wpAny_pure h₁
  | some v => exact wpAny_bind (wpAny_mono h₁ (fun _ s₂ h₂ => wpAny_bind (wpAny_mono h₂ (fun _ s₃ h₃ => wpAny_bind (wpAny_mono h₃ (fun _ s₄ h₄ => wpAny_pure h₄) fun _ _ z => z)) fun _ _ z => z)) fun _ _ z => z)

theorem turn_of {c : Cx} {e : PySem.Expr} {k : Nat} {a acc : Addr} {env : Env} {target : PySem.Expr} {t : Sem Unit} {p : Pos}
    (h : compTurn e k (.ref a) (.ref acc) env = (standAt p >>= fun _ => pyNext (.ref a) >>= fun r => match r with
      | none => pure (.done .next)
      | some v => letOwnedTupleGo target (.ref a) v >>= fun _ => assign target env v >>= fun _ => t >>= fun _ => again (.compLoop e k (.ref a) (.ref acc) env))) : TurnIs c e k a acc env target t := by
  intro A s Q E hq
  rw [h]
  refine wpAny_bind (wpAny_standAt (wpAny_bind (wpAny_mono hq (fun r s₁ h₁ => ?_) fun _ _ z => z)))
  cases r with
  | none => exact wpAny_pure h₁
  | some v => exact wpAny_bind (wpAny_mono h₁ (fun _ s₂ h₂ => wpAny_bind (wpAny_mono h₂ (fun _ s₃ h₃ => wpAny_bind (wpAny_mono h₃ (fun _ s₄ h₄ => wpAny_pure h₄) fun _ _ z => z)) fun _ _ z => z)) fun _ _ z => z)

theorem turn_if {c : Cx} {elt target iter cnd : PySem.Expr} {scope : Scope} {pos : Pos} {a acc : Addr} {env : Env} :
    TurnIs c (.ListComp elt [⟨target, iter, [cnd], 0⟩] scope pos) 0 a acc env target (isTrue cnd env (eval cnd env) >>= fun ok => if ok = true then (do let _ ← call (.builtin "list.append") [.ref acc, ← eval elt env]) else pure ()) := by
  refine turn_of (p := iter.pos) ?_
  rw [compTurn_list]
  simp only [List.forIn_cons, List.forIn_nil, if_true, bind_assoc, pure_bind]
  congr 1; funext _
  congr 1; funext r
  cases r with
  | none => rfl
  | some v =>
    dsimp only
    congr 1; funext _
    congr 1; funext _
    congr 1; funext ok
    cases ok with
    | false => simp
    | true => simp

theorem turn_outer {c : Cx} {elt target iter target' iter' : PySem.Expr} {scope : Scope} {pos : Pos} {a acc : Addr} {env : Env} :
    TurnIs c (.ListComp elt [⟨target, iter, [], 0⟩, ⟨target', iter', [], 0⟩] scope pos) 0 a acc env target
      (eval iter' env >>= fun x => standAt iter'.pos >>= fun _ => foldedSetIterable iter' env x >>= fun x => holding [x] (pyIter x) >>= fun it => runOwn (.compStart (.ListComp elt [⟨target, iter, [], 0⟩, ⟨target', iter', [], 0⟩] scope pos) 1 it (.ref acc) env) env >>= fun _ => pure ()) := by
  refine turn_of (p := iter.pos) ?_
  have e : compTurn (.ListComp elt [⟨target, iter, [], 0⟩, ⟨target', iter', [], 0⟩] scope pos) 0 (.ref a) (.ref acc) env = (standAt iter.pos >>= fun _ => pyNext (.ref a) >>= fun r => match r with
      | none => pure (.done .next)
      | some v => letOwnedTupleGo target (.ref a) v >>= fun _ => assign target env v >>= fun _ =>
        (eval iter' env >>= fun x => standAt iter'.pos >>= fun _ => foldedSetIterable iter' env x >>= fun x => holding [x] (pyIter x) >>= fun it => runOwn (.compStart (.ListComp elt [⟨target, iter, [], 0⟩, ⟨target', iter', [], 0⟩] scope pos) 1 it (.ref acc) env) env >>= fun _ =>
          again (.compLoop (.ListComp elt [⟨target, iter, [], 0⟩, ⟨target', iter', [], 0⟩] scope pos) 0 (.ref a) (.ref acc) env))) := by rfl
  rw [e]
  simp only [bind_assoc, pure_bind]
theorem turn_inner {c : Cx} {elt target iter target' iter' : PySem.Expr} {scope : Scope} {pos : Pos} {a acc : Addr} {env : Env} :
    TurnIs c (.ListComp elt [⟨target, iter, [], 0⟩, ⟨target', iter', [], 0⟩] scope pos) 1 a acc env target' (do let _ ← call (.builtin "list.append") [.ref acc, ← eval elt env]) := by
  refine turn_of (p := iter'.pos) ?_
  rfl

theorem CBody.ifs {c : Cx} {env : Env} {s₀ : Shared} {n : Nat} {acc : Addr} {elt cnd : PySem.Expr} {ρ : Vars} {b : Bool} {d : D} (F : Frm (c.own acc) env s₀) (hb : Tru (c.own acc) env n ρ cnd b) (h : b = true → Ev (c.own acc) env n ρ elt d) (hd : d.plain = true) (hρ : VOff acc ρ) :
    CBody c env s₀ n acc (isTrue cnd env (eval cnd env) >>= fun ok => if ok = true then (do let _ ← call (.builtin "list.append") [.ref acc, ← eval elt env]) else pure ()) ρ (if b then [d] else []) := by
  intro A s out R C hl ho
  have hg := hb A s R C.sta.inv C.sta.st
  refine wpAny_bind (wpAny_mono hg (fun r s₁ x => ?_) fun _ _ z => z)
  obtain ⟨x, rfl⟩ := x
  obtain ⟨vs, m, e, rs⟩ := C.lst
  have C₁ : CSt c env s₀ acc ρ out s₁ := ⟨C.sta.step x, ⟨vs, m, x.ext.keep _ _ e rfl, rs.ext x.ext⟩, C.fresh⟩
  cases r with
  | false => exact wpAny_pure ⟨by simpa using C₁, .of_ext x.ext⟩
  | true => exact wpAny_mono (CBody.emit F (h rfl) hd hρ A s₁ out R C₁ hl ho) (fun _ _ q => ⟨q.1, (Fram.of_ext x.ext).trans q.2⟩) fun _ _ z => z

/-- the loop is begun -/
theorem cstart {c : Cx} {A : Around} {R : Result → Shared → Prop} {s : Shared} {elt : PySem.Expr} {gens : List Comprehension} {scope : Scope} {pos : Pos} {k : Nat} {g : Comprehension} {a : Addr} {acc : Value} {env : Env} {ds : List D} (hg : gens[k]? = some g) (hs : g.is_async = 0)
    (it : ItAt c.X s.heap a ds) (h : codeAny c.M A (.compLoop (.ListComp elt gens scope pos) k (.ref a) acc env) R s) : codeAny c.M A (.compStart (.ListComp elt gens scope pos) k (.ref a) acc env) R s := by
  refine codeAny_of_tree ?_
  show wpAny _ _ ((compStart (.ListComp elt gens scope pos) k (.ref a) acc env).onRaise (fun x => do noteFrame x env; standAt theWindowsPlace)) _ _ s
  refine wpAny_notedAt ?_
  unfold compStart
  have e : (clausesOf (.ListComp elt gens scope pos))[k]? = some g := hg
  simp only [e, Option.elim_some, hs]
  simp only [bne_self_eq_false, Bool.false_eq_true, if_false]
  refine wpAny_bind (wpAny_askSetting ?_)
  split
  · exact wpAny_bind (wpAny_pure (wpAny_pure ⟨rfl, h⟩))
  · exact wpAny_bind (wpAny_rule (wpAny_bind (wpAny_standAt (wpAny_bind (it.self (wpAny_pure ⟨rfl, h⟩))))))

theorem sub_cons {ρ : Vars} {x : Str} {d' : D} (h : ρ.lookup x = none) : ∀ y d, ρ.lookup y = some d → ((x, d') :: ρ).lookup y = some d := by
  intro y d e
  rw [List.lookup_cons]
  cases q : y == x with
  | true => rw [eq_of_beq q, h] at e; cases e
  | false => exact e

/-- the names of the outside that a comprehension sees -/
def freeVars (cl : List (Str × Addr)) (ρ : Vars) : Vars := ρ.filter fun p => (cl.lookup p.1).isSome
theorem freeVars_look {cl : List (Str × Addr)} : ∀ {ρ : Vars} {x : Str} {d : D}, (freeVars cl ρ).lookup x = some d → ρ.lookup x = some d ∧ (cl.lookup x).isSome = true
  | [], x, d, h => by cases h
  | (y, e) :: r, x, d, h => by
    unfold freeVars at h
    rw [List.filter_cons] at h
    rw [List.lookup_cons]
    cases q : x == y with
    | true =>
      have := eq_of_beq q
      subst this
      split at h
      · rename_i hs
        rw [List.lookup_cons, q] at h
        cases h
        exact ⟨rfl, hs⟩
      · rename_i hs
        have := (freeVars_look (ρ := r) h).2
        exact absurd this hs
    | false =>
      split at h
      · rw [List.lookup_cons, q] at h
        exact freeVars_look (ρ := r) h
      · exact freeVars_look (ρ := r) h

/-- how the cells are handed on to a comprehension -/
def ClOk (env : Env) (scope : Scope) : List (Str × Addr) → Prop
  | [] => True
  | (x, a) :: r => (env.cells.lookup x = some a ∧ (env.kindOf x = some .cell ∨ env.kindOf x = some .free) ∧ ((relabel scope env).names.lookup x = some .cell ∨ (relabel scope env).names.lookup x = some .free)) ∧ ClOk env scope r
theorem ClOk.look {env : Env} {scope : Scope} : ∀ {cl : List (Str × Addr)} {x : Str} {a : Addr}, ClOk env scope cl → cl.lookup x = some a →
    env.cells.lookup x = some a ∧ (env.kindOf x = some .cell ∨ env.kindOf x = some .free) ∧ ((relabel scope env).names.lookup x = some .cell ∨ (relabel scope env).names.lookup x = some .free)
  | [], x, a, _, h => by cases h
  | (y, b) :: r, x, a, c, h => by
    rw [List.lookup_cons] at h
    cases q : x == y with
    | true => rw [q] at h; cases h; rw [eq_of_beq q]; exact c.1
    | false => rw [q] at h; exact ClOk.look c.2 h

/-- what the comprehension's own loop does -/
def CRun (c : Cx) (n : Nat) (e : PySem.Expr) (scope : Scope) (cl : List (Str × Addr)) (env : Env) (ρc : Vars) (ds outs : List D) : Prop :=
  ∀ acc L a A s₀ s sR, Frm (c.own acc) (compEnvC scope cl L env) s₀ → s₀.heap.get? a = none → Room A n → CSt c (compEnvC scope cl L env) s₀ acc ρc [] s → ItAt (acc :: c.X) s.heap a ds → VOff acc ρc →
    sR.heap.get? a = none → Fram (c.own acc) (compEnvC scope cl L env) sR s →
    codeAny c.M A (.compLoop e 0 (.ref a) (.ref acc) (compEnvC scope cl L env)) (fun r s' => r = .ok .next ∧ CSt c (compEnvC scope cl L env) s₀ acc ρc outs s' ∧ Fram (c.own acc) (compEnvC scope cl L env) sR s') s

structure CompOk (env : Env) (scope : Scope) (cl : List (Str × Addr)) : Prop where
  clos : closureFor scope env = pure cl
  kind : scope.kind = .function
  names : ∀ x ∈ scope.names, x.2 = .local → scope.names.lookup x.1 = some .local
  nocell : ∀ x ∈ scope.names, x.2 ≠ .cell
  ok : ClOk env scope cl

/-- behind a comprehension's loop -/
structure CDone (c : Cx) (s s' : Shared) (L : Addr) (acc : Value) (outs : List D) : Prop where
  stp : Stp c s s'
  free : s.heap.get? L = none
  ns : ∃ m, s'.heap.Ns L m ∧ m "_headers" = none
  rep : Rep c.X s'.heap acc (.lst Option.none outs)

theorem comp_go {c : Cx} {env : Env} {n : Nat} {ρ : Vars} {elt : PySem.Expr} {g : Comprehension} {gs : List Comprehension} {scope : Scope} {pos : Pos} {cl : List (Str × Addr)} {ds outs : List D} (K : EnvOk env) (ap : Apart env) (ok : CompOk env scope cl)
    (ha : g.is_async = 0) (hsrc : Src c env n ρ g.iter ds) (run : CRun c n (.ListComp elt (g :: gs) scope pos) scope cl env (freeVars cl ρ) ds outs) {A : Around} {s : Shared} (R : Room A n) (I : Inv c s.heap s.toks) (S : St c.X env ρ s.heap) :
    wpAny c.M A (eval g.iter env) (fun x s₁ => wpAny c.M A (pyIter x) (fun it s₂ => wpAny c.M A (newList []) (fun acc s₃ =>
      wpAny c.M A (newFunctionEnv scope env.globals cl [] env.qual none .none (some env)) (fun cenv s₄ =>
        codeAny c.M A (.compStart (.ListComp elt (g :: gs) scope pos) 0 it acc { cenv with scope := relabel scope env }) (fun r s' => r = .ok .next ∧ CDone c s s' cenv.locals acc outs) s₄) Never s₃) Never s₂) Never s₁) Never s := by
  refine wpAny_mono (hsrc A s R I S) (fun x s₁ h₁ => wpAny_mono h₁.2 (fun it s₂ h₂ => ?_) fun _ _ z => z) fun _ _ z => z
  obtain ⟨a, rfl, st, hfa, it⟩ := h₂
  refine wpAny_newObj_type (hd := by size_fits) ?_
  generalize hacc : s₂.heap.objs.size = acc
  have hacc2 : s₂.heap.get? acc = none := by rw [← hacc]; exact get?_size _
  have hacc0 : s.heap.get? acc = none := st.ext.none hacc2
  have haccX : acc ∉ c.X := hacc ▸ st.inv.new
  refine wpAny_newFunctionEnv ok.nocell (by intro x hx; cases hx) (fun h₄ hns hsb => ?_) ok.kind
  dsimp only at hns hsb ⊢
  generalize hH : s₂.heap.push { cls := .type "list", dict := none, data := .seq ([] : List Value).toArray } = H at hns hsb ⊢
  have eH : Ext s₂.heap H := hH ▸ .push _ _
  generalize hL : H.objs.size = L at hns hsb ⊢
  have hL2 : H.get? L = none := by rw [← hL]; exact get?_size _
  have keep4 : ∀ b o, H.get? b = some o → h₄.get? b = some o := fun b o e => (hsb.2 b (fun q => by rw [q, hL2] at e; cases e)).trans (Heap.get?_push_of_some _ e)
  have e4 : Ext H h₄ := .of_keep keep4
  have eall : Ext s₂.heap h₄ := eH.trans e4
  have hLs : s.heap.get? L = none := st.ext.none (eH.none hL2)
  have hLs2 : s₂.heap.get? L = none := eH.none hL2
  have haccH : H.get? acc = some (lstObj [] 0) := by rw [← hH, ← hacc]; exact Heap.get?_push_size _ rfl
  have hacc4 : h₄.get? acc = some (lstObj [] 0) := keep4 _ _ haccH
  have keep2 : ∀ b o, s₂.heap.get? b = some o → h₄.get? b = some o := fun b o e => keep4 b o (hH ▸ Heap.get?_push_of_some _ e)
  have I4 : Inv c h₄ s₂.toks := st.inv.keeps keep2
  have I4' : Inv (c.own acc) h₄ s₂.toks := ⟨I4.pos, I4.base, I4.tabs, fun x hx => by
    rcases List.mem_cons.mp hx with rfl | hx
    · exact ⟨_, _, hacc4⟩
    · exact I4.av x hx⟩
  have F : Frm (c.own acc) (compEnvC scope cl L env) s := ⟨⟨ok.kind, K.glob, K.blt⟩, hLs, fun a e => I.fresh e, fun x y b e1 e2 => ap x y b (ok.ok.look e1).1 (ok.ok.look e2).1⟩
  have S2 : St c.X env ρ s₂.heap := S.ext st.ext
  have repOff : ∀ {v d}, Rep c.X s₂.heap v d → Rep (acc :: c.X) h₄ v d := fun r => (r.more hacc2).ext eall
  have Sc : St (acc :: c.X) (compEnvC scope cl L env) (freeVars cl ρ) h₄ := by
    refine ⟨⟨_, hns, rfl, fun x d e k => ?_⟩, fun x d e k => ?_, fun x b e => ?_, fun x d e => ?_⟩
    · obtain ⟨e1, e2⟩ := freeVars_look e
      obtain ⟨b, hb⟩ := Option.isSome_iff_exists.mp e2
      have := (ok.ok.look hb).2.2
      have k' : (relabel scope env).names.lookup x = some .local := k
      rw [k'] at this
      rcases this with q | q <;> cases q
    · obtain ⟨e1, e2⟩ := freeVars_look e
      obtain ⟨b, hb⟩ := Option.isSome_iff_exists.mp e2
      obtain ⟨q1, q2, q3⟩ := ok.ok.look hb
      obtain ⟨b', v, w1, w2, w3⟩ := S2.cel x d e1 q2
      rw [q1] at w1; cases w1
      exact ⟨b, v, hb, eall.cell w2, repOff w3⟩
    · obtain ⟨q1, q2, q3⟩ := ok.ok.look e
      obtain ⟨v, w⟩ := S2.own x b q1
      exact ⟨v, eall.cell w⟩
    · obtain ⟨e1, e2⟩ := freeVars_look e
      obtain ⟨b, hb⟩ := Option.isSome_iff_exists.mp e2
      exact .inr (ok.ok.look hb).2.2
  have voff : VOff acc (freeVars cl ρ) := by
    intro x d e
    obtain ⟨e1, e2⟩ := freeVars_look e
    obtain ⟨b, hb⟩ := Option.isSome_iff_exists.mp e2
    obtain ⟨b', v, w1, w2, w3⟩ := S2.cel x d e1 (ok.ok.look hb).2.1
    exact w3.off hacc2
  have it4 : ItAt (acc :: c.X) h₄ a ds := by
    have it2 : ItAt (acc :: c.X) s₂.heap a ds := by
      cases it with
      | lst e e' q r => exact .lst e e' (fun m => (List.mem_cons.mp m).elim (fun z => by rw [z, hacc2] at e'; cases e') q) (r.more hacc2)
      | tup e e' r => exact .tup e e' (r.more hacc2)
      | rng e => exact .rng e
      | rev e e' q k r => exact .rev e e' (fun m => (List.mem_cons.mp m).elim (fun z => by rw [z, hacc2] at e'; cases e') q) k (r.more hacc2)
    exact it2.ext eall
  have C : CSt c (compEnvC scope cl L env) s acc (freeVars cl ρ) [] { s₂ with heap := h₄, toks := s₂.toks + ([] : List (Str × Value)).length } :=
    ⟨⟨I4', st.ext.trans eall, Sc, by rw [st.sh]⟩, ⟨[], 0, hacc4, .nil⟩, hacc0⟩
  refine cstart (c := c.own acc) rfl ha it4 ?_
  refine codeAny_mono (run acc L a A s _ s F hfa R C it4 voff hfa (.of_ext (st.ext.trans eall))) fun r s' q => ⟨q.1, ?_⟩
  obtain ⟨_, C', _⟩ := q
  obtain ⟨m, w1, w2, _⟩ := C'.sta.st.loc
  obtain ⟨vs, k, w3, w4⟩ := C'.lst
  refine ⟨⟨⟨C'.sta.inv.pos, C'.sta.inv.base, C'.sta.inv.tabs, fun x hx => C'.sta.inv.av x (List.mem_cons_of_mem _ hx)⟩, C'.sta.ext, C'.sta.sh⟩, hLs, ⟨m, w1, w2⟩, ?_⟩
  exact .lst w3 (fun _ e => by cases e) (fun _ => haccX) (w4.fewer fun a ha => List.mem_cons_of_mem _ ha)

theorem Stp.chgNs {c : Cx} {s s' : Shared} {L : Addr} {h' : Heap} {m} (st : Stp c s s') (I : Inv c s.heap s.toks) (hL : s.heap.get? L = none) (hn : s'.heap.Ns L m) (hs : Heap.SameBut L s'.heap h') : Stp c s { s' with heap := h' } :=
  ⟨st.inv.chg hs.extBut (I.fresh hL) (ns_soft hn) (fun hx => absurd hx (ns_notX st.inv hn)), ext_same st.ext hL hs.extBut, by rw [st.sh]⟩

theorem Ev.comp {c : Cx} {env : Env} {n : Nat} {ρ : Vars} {elt : PySem.Expr} {g : Comprehension} {gs : List Comprehension} {scope : Scope} {pos : Pos} {cl : List (Str × Addr)} {ds outs : List D} (K : EnvOk env) (ap : Apart env) (ok : CompOk env scope cl)
    (hsrc : Src c env n ρ g.iter ds) (run : CRun c n (.ListComp elt (g :: gs) scope pos) scope cl env (freeVars cl ρ) ds outs)
    (ha : g.is_async = 0 := by rfl) (hfs : ∀ x, foldedSetIterable g.iter env x = pure x := by intro _; rfl) (hfi : firstIter (g :: gs) env = eval g.iter env := by rfl) (hfa : firstAsync (g :: gs) = false := by rfl) : Ev c env n ρ (.ListComp elt (g :: gs) scope pos) (.lst Option.none outs) := by
  intro A s R I S
  unfold Gives
  rw [eval_ListComp, hfa, hfi]
  refine wpAny_comprehension_free rfl hfs ok.clos ok.kind ok.names ?_
  refine wpAny_mono (comp_go K ap ok ha hsrc run R I S) (fun x s₁ h₁ => wpAny_mono h₁ (fun it s₂ h₂ => wpAny_mono h₂ (fun acc s₃ h₃ => wpAny_mono h₃ (fun cenv s₄ h₄ => codeAny_mono h₄ fun r s' q => ?_) fun _ _ z => z) fun _ _ z => z) fun _ _ z => z) fun _ _ z => z
  obtain ⟨rfl, d⟩ := q
  obtain ⟨m, hn, hm⟩ := d.ns
  refine ⟨m, hn, fun h' hs => ⟨d.stp.chgNs I d.free hn hs, d.rep.chg hs.extBut (ns_harmless hn hm)⟩⟩

theorem Sta.chgNs {c : Cx} {env : Env} {s₀ s : Shared} {ρ : Vars} {L : Addr} {h' : Heap} {m} (F : Frm c env s₀) (S : Sta c env s₀ ρ s) (hL : s₀.heap.get? L = none) (hne : L ≠ env.locals) (hn : s.heap.Ns L m) (hm : m "_headers" = none) (hs : Heap.SameBut L s.heap h') :
    Sta c env s₀ ρ { s with heap := h' } :=
  ⟨S.inv.chg hs.extBut (F.base _ hL) (ns_soft hn) (fun hx => absurd hx (ns_notX S.inv hn)), ext_same S.ext hL hs.extBut,
    S.st.chg hs.extBut (ns_harmless hn hm) hne (fun x b e => by obtain ⟨v, q⟩ := S.st.own x b e; exact cell_ne_ns q hn), by rw [S.sh]⟩

/-- «x = [..]», where the store goes ahead of the comprehension's own end -/
theorem Ex.assignC {c : Cx} {env : Env} {s₀ : Shared} {n : Nat} {ρ : Vars} {x : Str} {p : Pos} {elt : PySem.Expr} {g : Comprehension} {gs : List Comprehension} {scope : Scope} {cpos pos : Pos} {cl : List (Str × Addr)} {ds outs : List D} {rest : List Stmt} {P : Flow → Shared → Prop}
    (F : Frm c env s₀) (k : NmOk env s₀ x) (ok : CompOk env scope cl) (hsrc : Src c env n ρ g.iter ds) (run : CRun c n (.ListComp elt (g :: gs) scope cpos) scope cl env (freeVars cl ρ) ds outs)
    (hr : Ex c env s₀ n ((x, .lst Option.none outs) :: ρ) rest P) (hs : swapsWith (.ListComp elt (g :: gs) scope cpos) (some (.Name x p)) pos.line env = pure true := by rfl)
    (ha : g.is_async = 0 := by rfl) (hfs : ∀ x, foldedSetIterable g.iter env x = pure x := by intro _; rfl) (hfi : firstIter (g :: gs) env = eval g.iter env := by rfl) (hfa : firstAsync (g :: gs) = false := by rfl) :
    Ex c env s₀ n ρ (.Assign [.Name x p] (.ListComp elt (g :: gs) scope cpos) pos :: rest) P := by
  intro A s R S
  refine wpAny_execs_cons ?_
  rw [exec_Assign_Name_used _ _ _ _ hs]
  refine wpAny_bind (wpAny_standAt (wpAny_bind ?_))
  show wpAny c.M A (do
    let _ ← comprehension (.ListComp elt (g :: gs) scope cpos) scope env (firstIterPos (g :: gs) cpos) (newList []) (firstAsync (g :: gs)) (firstIter (g :: gs) env) (some (PySem.assign (.Name x p) env))) _ _ s
  rw [hfa, hfi]
  refine wpAny_bind (wpAny_comprehension_free rfl hfs ok.clos ok.kind ok.names ?_)
  refine wpAny_mono (comp_go F.toEnvOk F.apart ok ha hsrc run R S.inv S.st) (fun x s₁ h₁ => wpAny_mono h₁ (fun it s₂ h₂ => wpAny_mono h₂ (fun acc s₃ h₃ => wpAny_mono h₃ (fun cenv s₄ h₄ => codeAny_mono h₄ fun r s' q => ?_) fun _ _ z => z.elim) fun _ _ z => z.elim) fun _ _ z => z.elim) fun _ _ z => z.elim
  obtain ⟨rfl, d⟩ := q
  obtain ⟨m, hn, hm⟩ := d.ns
  obtain ⟨m₀, hn₀, _⟩ := S.st.loc
  have hne : cenv.locals ≠ env.locals := fun q => by
    have e := d.free
    obtain ⟨o, _, _, e1, _⟩ := hn₀
    rw [q, e1] at e; cases e
  show wpAny c.M A (PySem.assign (.Name _ p) env acc) _ _ s'
  refine wpAny_mono (Tgt.name (n := n) F k A s' acc R (S.step d.stp) d.rep) (fun _ s'' q => ?_) fun _ _ z => z.elim
  obtain ⟨fv, S''⟩ := q
  have hn'' : s''.heap.Ns cenv.locals m := by
    obtain ⟨o, es, ep, e1, e2, e3⟩ := hn
    refine ⟨o, es, ep, fv _ _ e1 (by unfold isTab; rw [e2]; cases o.cls <;> rfl) hne (fun ⟨y, hy, _⟩ => ?_), e2, e3⟩
    obtain ⟨v, o', w, _⟩ := S.st.own y _ hy
    have e := d.free
    rw [w] at e; cases e
  refine ⟨m, hn'', fun h' hs' => wpAny_pure (wpAny_pure ?_)⟩
  have S₃ := S''.chgNs F (S.ext.none d.free) hne hn'' hm hs'
  refine wpAny_mono (hr A _ R S₃) (fun _ _ q => ⟨Fram.trans ?_ q.1, q.2⟩) fun _ _ z => z
  intro b o e t w
  have e' := fv b o (d.stp.ext.keep b o e t) t (fun z => w (.inl z)) (fun z => w (.inr (.inl z)))
  exact (hs'.2 b (fun z => by rw [z, d.free] at e; cases e)).trans e'

theorem flatMap_one {α β : Type} (f : α → β) : ∀ ys : List α, ys.flatMap (fun y => [f y]) = ys.map f
  | [] => rfl
  | y :: ys => by rw [List.flatMap_cons, flatMap_one f ys]; rfl
/-- the inner loop of a comprehension -/
theorem CBody.inner {β : Type} {c : Cx} {env : Env} {s₀ : Shared} {n : Nat} {acc : Addr} {ρ : Vars} {elt target iter target' iter' : PySem.Expr} {scope : Scope} {pos : Pos} (ys : List β) (g : β → D) (f : β → D) (F : Frm (c.own acc) env s₀) (hsrc : Src (c.own acc) env n ρ iter' (ys.map g))
    (hg : ∀ y ∈ ys, (g y).plain = true) (hf : ∀ y ∈ ys, (f y).plain = true)
    (turn : ∀ y ∈ ys, ∃ ρ₂, Tgt (c.own acc) env s₀ n target' (g y) ρ ρ₂ ∧ (∀ z d, ρ.lookup z = some d → ρ₂.lookup z = some d) ∧ VOff acc ρ₂ ∧ Ev (c.own acc) env n ρ₂ elt (f y))
    (hfs : ∀ x, foldedSetIterable iter' env x = pure x := by intro _; rfl) :
    CBody c env s₀ n acc (eval iter' env >>= fun x => standAt iter'.pos >>= fun _ => foldedSetIterable iter' env x >>= fun x => holding [x] (pyIter x) >>= fun it => runOwn (.compStart (.ListComp elt [⟨target, iter, [], 0⟩, ⟨target', iter', [], 0⟩] scope pos) 1 it (.ref acc) env) env >>= fun _ => pure ()) ρ (ys.map f) := by
  intro A s out R C hl ho
  refine wpAny_bind (wpAny_mono (hsrc A s R C.sta.inv C.sta.st) (fun x s₁ h₁ => wpAny_bind (wpAny_standAt (wpAny_bind (wpAny_of_eq (hfs x) (wpAny_bind (wpAny_holding (wpAny_mono h₁.2 (fun it s₂ h₂ => ?_) fun _ _ z => z))))))) fun _ _ z => z)
  obtain ⟨a, rfl, st, ha, it⟩ := h₂
  obtain ⟨vs, m, e, rs⟩ := C.lst
  have C₂ : CSt c env s₀ acc ρ out s₂ := ⟨C.sta.step st, ⟨vs, m, st.ext.keep _ _ e rfl, rs.ext st.ext⟩, C.fresh⟩
  have e' : ys.flatMap (fun y => [f y]) = ys.map f := flatMap_one f ys
  refine wpAny_bind (wpAny_runOwn (cstart (c := c.own acc) rfl rfl it ?_))
  refine codeAny_mono (cloop (sR := s) ys g (fun y => [f y]) F (C.sta.ext.none ha) turn_inner (fun y hy => ?_) hg (fun y hy => by simp [D.plains, hf y hy]) R C₂ it (by rw [e']; exact hl) ho ha (.of_ext st.ext)) fun r s' q => ?_
  · obtain ⟨ρ₂, t, sub, vo, ev⟩ := turn y hy
    exact ⟨ρ₂, t, sub, vo, CBody.emit F ev (hf y hy) vo⟩
  · obtain ⟨rfl, C', fr⟩ := q
    rw [e'] at C'
    exact wpAny_pure ⟨C', fr⟩

/-! ## A def of the text's is called -/
theorem bindL_other {k : Str → Option NameKind} : ∀ {b : List (Str × Value)} {m : Str → Option Value} {x : Str}, x ∉ b.map (·.1) → bindL k b m x = m x
  | [], m, x, _ => rfl
  | (n, v) :: r, m, x, h => by
    rw [List.map_cons, List.mem_cons, not_or] at h
    rw [bindL, bindL_other h.2]
    split
    · exact if_neg h.1
    · rfl
theorem bindC_other {k : Str → Option NameKind} : ∀ {b : List (Str × Value)} {m : Str → Option Value} {x : Str}, x ∉ b.map (·.1) → bindC k b m x = m x
  | [], m, x, _ => rfl
  | (n, v) :: r, m, x, h => by
    rw [List.map_cons, List.mem_cons, not_or] at h
    rw [bindC, bindC_other h.2]
    split
    · rfl
    · exact if_neg h.1
theorem bindL_look {k : Str → Option NameKind} : ∀ {b : List (Str × Value)} {m : Str → Option Value} {x : Str} {v : Value}, (b.map (·.1)).Nodup → b.lookup x = some v → k x = some .local → bindL k b m x = some v
  | [], m, x, v, _, h, _ => by cases h
  | (n, u) :: r, m, x, v, hn, h, hk => by
    rw [List.map_cons, List.nodup_cons] at hn
    rw [List.lookup_cons] at h
    cases q : x == n with
    | true =>
      rw [q] at h; cases h
      have := eq_of_beq q
      subst this
      rw [bindL, bindL_other hn.1, if_pos hk, if_pos rfl]
    | false => rw [q] at h; rw [bindL]; exact bindL_look hn.2 h hk
theorem bindC_look {k : Str → Option NameKind} : ∀ {b : List (Str × Value)} {m : Str → Option Value} {x : Str} {v : Value}, (b.map (·.1)).Nodup → b.lookup x = some v → k x ≠ some .local → bindC k b m x = some v
  | [], m, x, v, _, h, _ => by cases h
  | (n, u) :: r, m, x, v, hn, h, hk => by
    rw [List.map_cons, List.nodup_cons] at hn
    rw [List.lookup_cons] at h
    cases q : x == n with
    | true =>
      rw [q] at h; cases h
      have := eq_of_beq q
      subst this
      rw [bindC, bindC_other hn.1, if_neg hk, if_pos rfl]
    | false => rw [q] at h; rw [bindC]; exact bindC_look hn.2 h hk
theorem zip_look {X : List Addr} {h : Heap} : ∀ {names : List Str} {vs : List Value} {ds : List D} {x : Str} {d : D}, Reps X h vs ds → (names.zip ds).lookup x = some d → ∃ v, (names.zip vs).lookup x = some v ∧ Rep X h v d
  | [], _, _, _, _, _, e => by simp at e
  | _ :: _, _, _, _, _, .nil, e => by simp at e
  | n :: names, _, _, x, d, .cons (v := v) r rs, e => by
    rw [List.zip_cons_cons, List.lookup_cons] at e
    rw [List.zip_cons_cons, List.lookup_cons]
    cases q : x == n with
    | true => rw [q] at e; cases e; exact ⟨v, rfl, r⟩
    | false => rw [q] at e; exact zip_look rs e

/-- a call gives back d, and what stood stands -/
def RetP (c : Cx) (s₀ : Shared) (d : D) : Flow → Shared → Prop := fun f s' => ∃ v, f = .ret v ∧ Stp c s₀ s' ∧ Rep c.X s'.heap v d
theorem Sta.stp {c : Cx} {env : Env} {s₀ s : Shared} {ρ : Vars} (S : Sta c env s₀ ρ s) : Stp c s₀ s := ⟨S.inv, S.ext, S.sh⟩
theorem Ex.back {c : Cx} {env : Env} {s₀ : Shared} {n : Nat} {ρ : Vars} {e : PySem.Expr} {pos : Pos} {d : D} {rest : List Stmt} (h : Ev c env n ρ e d) : Ex c env s₀ n ρ (.Return (some e) pos :: rest) (RetP c s₀ d) :=
  Ex.ret h fun v s S r => ⟨v, rfl, S.stp, r⟩

/-- the frame of a call -/
structure FnEnv (c : Cx) (env : Env) (s₀ : Shared) : Prop extends Frm c env s₀ where
  cel : ∀ x a, env.cells.lookup x = some a → s₀.heap.get? a = none

structure FnOk (c : Cx) (f : Addr) (fd : FuncData) (body : List Stmt) : Prop where
  obj : ∃ o, c.B.get? f = some o ∧ o.data = .func fd
  code : c.B.CodeRec fd.code fd.qualname
  body : fd.body = .stmts body
  clo : fd.closure = []
  glob : fd.globals = mainGlobals
  blt : fd.builtins = builtinsNs
  kind : fd.scope.kind = .function
  co : fd.scope.isCoroutine = false
  gen : fd.scope.isGenerator = false

theorem call_fn {c : Cx} {f : Addr} {fd : FuncData} {body : List Stmt} {names : List Str} {ds : List D} {vs : List Value} {kw : List (Str × Value)} {n : Nat} {P : Flow → Shared → Prop} {A : Around} {s : Shared} {R' : Result → Shared → Prop} (ok : FnOk c f fd body) (R : Room A (n + 1)) (I : Inv c s.heap s.toks)
    (r : Reps c.X s.heap vs ds) (hl : names.length = ds.length) (hbind : bindArgs fd ⟨vs.take (vs.length - kw.length), kw⟩ = pure (names.zip vs)) (hnd : names.Nodup) (hh : (Str.ofString "_headers") ∉ names)
    (hkind : ∀ x ∈ names, fd.scope.names.lookup x = some .local ∨ (fd.scope.names.lookup x = some .cell ∧ ∀ k, ((cellsFrom k fd.scope.names []).lookup x).isSome = true))
    (hb : ∀ L, FnEnv c (callEnvC fd L f) s → Ex c (callEnvC fd L f) s n (names.zip ds) body P) (hR : ∀ fl s', P fl s' → R' (.ok (.ret (match fl with | .ret v => v | _ => .none))) s') :
    codeAny c.M A (.call (.ref f) ⟨vs.take (vs.length - kw.length), kw⟩) R' s := by
  obtain ⟨o, ho, hd⟩ := ok.obj
  refine codeAny_call_function R.depthLt (I.base _ _ ho) hd ok.co ok.gen ok.body (ok.code.keeps I.base) ?_
  rw [hbind, ok.clo]
  have hkeys : (names.zip vs).map (·.1) = names := by
    rw [List.map_fst_zip]
    rw [r.length, hl]; exact Nat.le_refl _
  refine wpAny_pure (wpAny_tk (wpAny_newFunctionEnv_cells ok.kind (fun x hx => ?_) fun env he s' x htk => ?_))
  · have : x.1 ∈ names := hkeys ▸ List.mem_map_of_mem hx
    rcases hkind x.1 this with q | ⟨q, q'⟩
    · exact .inl q
    · exact .inr ⟨q, q' _⟩
  subst he
  have hlim : s.heap.NoLimit := c.lim.keeps I.base
  refine ⟨hlim.keeps x.toInCall.keep, codeAny_func ?_⟩
  obtain ⟨h₁, tk, rfl, hk⟩ := x.done
  have hfresh : s.heap.get? s.heap.objs.size = none := get?_size _
  have F : FnEnv c (callEnvC fd s.heap.objs.size f) s := by
    refine ⟨⟨⟨ok.kind, ok.glob, ok.blt⟩, hfresh, fun a e => I.fresh e, fun y z a e1 e2 => name_of_addr x.apart (mem_of_lookup e1) (mem_of_lookup e2)⟩, fun y a e => ?_⟩
    have := x.above y a (mem_of_lookup e)
    cases q : s.heap.get? a with
    | none => rfl
    | some o => exact absurd (Heap.lt_size q) (Nat.not_lt.mpr (Nat.le_of_lt this))
  have ext : Ext s.heap h₁ := .of_keep hk
  have S : Sta c (callEnvC fd s.heap.objs.size f) s (names.zip ds) { s with heap := h₁, toks := tk } := by
    refine ⟨I.keeps hk, ext, ⟨⟨_, x.toInCall.ns, ?_, fun y d e k => ?_⟩, fun y d e k => ?_, fun y a e => ⟨_, x.cell y a e⟩, fun y d e => ?_⟩, rfl⟩
    · rw [bindL_other (by rw [hkeys]; exact hh)]
    · obtain ⟨v, w1, w2⟩ := zip_look r e
      exact ⟨v, bindL_look (by rw [hkeys]; exact hnd) w1 k, w2.ext ext⟩
    · obtain ⟨v, w1, w2⟩ := zip_look r e
      have hy : y ∈ names := by
        have := List.mem_map_of_mem (f := (·.1)) (mem_of_lookup w1)
        rw [hkeys] at this; exact this
      have hnl : (callEnvC fd s.heap.objs.size f).kindOf y ≠ some .local := by rcases k with k | k <;> rw [k] <;> simp
      rcases hkind y hy with q | ⟨q, q'⟩
      · exact absurd q hnl
      · obtain ⟨a, ha⟩ := Option.isSome_iff_exists.mp (q' (s.heap.objs.size + 1))
        refine ⟨a, v, ha, ?_, w2.ext ext⟩
        have := x.cell y a ha
        have e2 := bindC_look (k := (callEnvC fd s.heap.objs.size f).kindOf) (m := fun _ => Option.none) (by rw [hkeys]; exact hnd) w1 hnl
        exact e2 ▸ this
    · obtain ⟨v, w1, w2⟩ := zip_look r e
      have hy : y ∈ names := by
        have := List.mem_map_of_mem (f := (·.1)) (mem_of_lookup w1)
        rw [hkeys] at this; exact this
      rcases hkind y hy with q | ⟨q, _⟩
      · exact .inl q
      · exact .inr (.inl q)
  exact wpAny_mono (hb _ F (A.deeper _) _ R.deeper S) (fun fl s' q => hR fl s' q.2) fun _ _ z => z.elim

theorem CallTo.fn {c : Cx} {f : Addr} {fd : FuncData} {body : List Stmt} {n : Nat} {ds : List D} {d : D} (names : List Str) (ok : FnOk c f fd body) (hl : names.length = ds.length)
    (hbind : ∀ vs : List Value, vs.length = names.length → bindArgs fd ⟨vs, []⟩ = pure (names.zip vs)) (hnd : names.Nodup) (hh : (Str.ofString "_headers") ∉ names)
    (hkind : ∀ x ∈ names, fd.scope.names.lookup x = some .local ∨ (fd.scope.names.lookup x = some .cell ∧ ∀ k, ((cellsFrom k fd.scope.names []).lookup x).isSome = true))
    (hb : ∀ L s, FnEnv c (callEnvC fd L f) s → Ex c (callEnvC fd L f) s n (names.zip ds) body (RetP c s d)) : CallTo c (n + 1) (.ref f) ds d := by
  intro A s vs R I r
  refine wpAny_call ?_
  have e : (⟨vs, []⟩ : Args) = ⟨vs.take (vs.length - ([] : List (Str × Value)).length), []⟩ := by simp
  rw [e]
  refine call_fn ok R I r hl ?_ hnd hh hkind (fun L F => hb L s F) fun fl s' q => ?_
  · rw [← e]; exact hbind vs (by rw [r.length, hl])
  · obtain ⟨v, rfl, st, rp⟩ := q
    exact ⟨st, rp⟩

set_option maxRecDepth 100000
/-! ## Operators upon data -/
section
variable {c : Cx} {n : Nat} {a b : Int} {x y : UInt64}

theorem Bin.addI : Bin c n .Add (.int a) (.int b) (.int (a + b)) := by
  intro A s v₁ v₂ R I r₁ r₂; obtain ⟨t₁, rfl⟩ := r₁.isInt; obtain ⟨t₂, rfl⟩ := r₂.isInt; exact PyProof.Rows.add_int ⟨.tok I _, .int _ _⟩
theorem Bin.subI : Bin c n .Sub (.int a) (.int b) (.int (a - b)) := by
  intro A s v₁ v₂ R I r₁ r₂; obtain ⟨t₁, rfl⟩ := r₁.isInt; obtain ⟨t₂, rfl⟩ := r₂.isInt; exact PyProof.Rows.sub_int ⟨.tok I _, .int _ _⟩
/-- small enough to be multiplied -/
theorem small_mul (h : a.natAbs < 2 ^ 64 ∨ b.natAbs < 2 ^ 64) : IntMulOk a b := by
  rcases h with h | h
  · exact IntMulOk.of_left (PySem.intBits_le_64 (by omega) (by omega))
  · exact IntMulOk.of_right (PySem.intBits_le_64 (by omega) (by omega))
theorem Bin.mulI (h : a.natAbs < 2 ^ 64 ∨ b.natAbs < 2 ^ 64) : Bin c n .Mult (.int a) (.int b) (.int (a * b)) := by
  intro A s v₁ v₂ R I r₁ r₂; obtain ⟨t₁, rfl⟩ := r₁.isInt; obtain ⟨t₂, rfl⟩ := r₂.isInt; exact PyProof.Rows.mul_int ⟨.tok I _, .int _ _⟩ (small_mul h)
theorem Bin.divI (h : b ≠ 0) (hb : b.natAbs < 1073741824) : Bin c n .FloorDiv (.int a) (.int b) (.int (a.fdiv b)) := by
  intro A s v₁ v₂ R I r₁ r₂; obtain ⟨t₁, rfl⟩ := r₁.isInt; obtain ⟨t₂, rfl⟩ := r₂.isInt; exact PyProof.Rows.floordiv_int h (hp := Or.inl (PyProof.noPylong_small hb)) ⟨.tok I _, .int _ _⟩
theorem Bin.modI (h : b ≠ 0) (hb : b.natAbs < 1073741824) : Bin c n .Mod (.int a) (.int b) (.int (a.fmod b)) := by
  intro A s v₁ v₂ R I r₁ r₂; obtain ⟨t₁, rfl⟩ := r₁.isInt; obtain ⟨t₂, rfl⟩ := r₂.isInt; exact PyProof.Rows.mod_int' h ⟨.tok I _, .int _ _⟩
theorem Bin.shlI (h0 : 0 ≤ b) (h1 : b ≤ 1000000) (ha : a.natAbs < 2 ^ 64) : Bin c n .LShift (.int a) (.int b) (.int (a * 2 ^ b.toNat)) := by
  intro A s v₁ v₂ R I r₁ r₂; obtain ⟨t₁, rfl⟩ := r₁.isInt; obtain ⟨t₂, rfl⟩ := r₂.isInt; exact PyProof.Rows.lshift_int_small h0 h1 ha ⟨.tok I _, .int _ _⟩
theorem Bin.shrI (h0 : 0 ≤ b) : Bin c n .RShift (.int a) (.int b) (.int (a.fdiv (2 ^ b.toNat))) := by
  intro A s v₁ v₂ R I r₁ r₂; obtain ⟨t₁, rfl⟩ := r₁.isInt; obtain ⟨t₂, rfl⟩ := r₂.isInt; exact PyProof.Rows.rshift_int h0 ⟨.tok I _, .int _ _⟩
theorem Bin.xorI : Bin c n .BitXor (.int a) (.int b) (.int (Builtin.bitXor a b)) := by
  intro A s v₁ v₂ R I r₁ r₂; obtain ⟨t₁, rfl⟩ := r₁.isInt; obtain ⟨t₂, rfl⟩ := r₂.isInt; exact PyProof.Rows.xor_int ⟨.tok I _, .int _ _⟩
theorem Bin.powI (h0 : 0 ≤ b) (h1 : b ≤ 1000000) (ha : a.natAbs < 2 ^ 64) : Bin c n .Pow (.int a) (.int b) (.int (a ^ b.toNat)) := by
  intro A s v₁ v₂ R I r₁ r₂; obtain ⟨t₁, rfl⟩ := r₁.isInt; obtain ⟨t₂, rfl⟩ := r₂.isInt; exact PyProof.Rows.pow_int_small h0 h1 ha ⟨.tok I _, .int _ _⟩
theorem Bin.addF : Bin c n .Add (.flt x) (.flt y) (.flt (Float64.add x y)) := by
  intro A s v₁ v₂ R I r₁ r₂; obtain ⟨t₁, rfl, _⟩ := r₁.isFlt; obtain ⟨t₂, rfl, _⟩ := r₂.isFlt; exact add_float ⟨.tok I _, .flt _ _ I.pos⟩
theorem Bin.subF : Bin c n .Sub (.flt x) (.flt y) (.flt (Float64.sub x y)) := by
  intro A s v₁ v₂ R I r₁ r₂; obtain ⟨t₁, rfl, _⟩ := r₁.isFlt; obtain ⟨t₂, rfl, _⟩ := r₂.isFlt; exact sub_float ⟨.tok I _, .flt _ _ I.pos⟩
theorem Bin.mulF : Bin c n .Mult (.flt x) (.flt y) (.flt (Float64.mul x y)) := by
  intro A s v₁ v₂ R I r₁ r₂; obtain ⟨t₁, rfl, _⟩ := r₁.isFlt; obtain ⟨t₂, rfl, _⟩ := r₂.isFlt; exact mul_float ⟨.tok I _, .flt _ _ I.pos⟩
theorem Bin.divF (h : Float64.isZero y = false) : Bin c n .Div (.flt x) (.flt y) (.flt (Float64.div x y)) := by
  intro A s v₁ v₂ R I r₁ r₂; obtain ⟨t₁, rfl, _⟩ := r₁.isFlt; obtain ⟨t₂, rfl, _⟩ := r₂.isFlt; exact AutoFloatOps.truediv_1 (by rw [h]; exact Bool.false_ne_true) ⟨.tok I _, .flt _ _ I.pos⟩
theorem Bin.modF (h : Float64.isZero y = false) : Bin c n .Mod (.flt x) (.flt y) (.flt (Float64.divmod x y).snd) := by
  intro A s v₁ v₂ R I r₁ r₂; obtain ⟨t₁, rfl, _⟩ := r₁.isFlt; obtain ⟨t₂, rfl, _⟩ := r₂.isFlt; exact AutoFloatOps.mod_1 (by rw [h]; exact Bool.false_ne_true) ⟨.tok I _, .flt _ _ I.pos⟩
theorem Bin.mulIF (h : Float64.isInf (Float64.ofInt a) = false) : Bin c n .Mult (.int a) (.flt y) (.flt (Float64.mul (Float64.ofInt a) y)) := by
  intro A s v₁ v₂ R I r₁ r₂; obtain ⟨t₁, rfl⟩ := r₁.isInt; obtain ⟨t₂, rfl, _⟩ := r₂.isFlt; exact AutoFloatOps.mul_if_1 (by rw [h]; exact Bool.false_ne_true) ⟨.tok I _, .flt _ _ I.pos⟩
theorem Bin.mulFI (h : Float64.isInf (Float64.ofInt b) = false) : Bin c n .Mult (.flt x) (.int b) (.flt (Float64.mul x (Float64.ofInt b))) := by
  intro A s v₁ v₂ R I r₁ r₂; obtain ⟨t₁, rfl, _⟩ := r₁.isFlt; obtain ⟨t₂, rfl⟩ := r₂.isInt; exact AutoFloatOps.mul_fi_1 (by rw [h]; exact Bool.false_ne_true) ⟨.tok I _, .flt _ _ I.pos⟩
theorem Bin.subIF (h : Float64.isInf (Float64.ofInt a) = false) : Bin c n .Sub (.int a) (.flt y) (.flt (Float64.sub (Float64.ofInt a) y)) := by
  intro A s v₁ v₂ R I r₁ r₂; obtain ⟨t₁, rfl⟩ := r₁.isInt; obtain ⟨t₂, rfl, _⟩ := r₂.isFlt; exact AutoFloatOps.sub_if_1 (by rw [h]; exact Bool.false_ne_true) ⟨.tok I _, .flt _ _ I.pos⟩
theorem Bin.divIF (h : Float64.isInf (Float64.ofInt a) = false) (h' : Float64.isZero y = false) : Bin c n .Div (.int a) (.flt y) (.flt (Float64.div (Float64.ofInt a) y)) := by
  intro A s v₁ v₂ R I r₁ r₂; obtain ⟨t₁, rfl⟩ := r₁.isInt; obtain ⟨t₂, rfl, _⟩ := r₂.isFlt; exact AutoFloatOps.truediv_if_2 (by rw [h]; exact Bool.false_ne_true) (by rw [h']; exact Bool.false_ne_true) ⟨.tok I _, .flt _ _ I.pos⟩
/-- a true division of ints -/
def idiv (a b : Int) : UInt64 := Float64.ofFrac (decide (a < 0) != decide (b < 0)) a.natAbs b.natAbs
theorem Bin.divII (h : b ≠ 0) (h' : Float64.isInf (idiv a b) = false) : Bin c n .Div (.int a) (.int b) (.flt (idiv a b)) := by
  intro A s v₁ v₂ R I r₁ r₂; obtain ⟨t₁, rfl⟩ := r₁.isInt; obtain ⟨t₂, rfl⟩ := r₂.isInt; exact AutoIntOps.truediv_2 (by simpa using h) (by rw [show Float64.ofFrac _ _ _ = idiv a b from rfl, h']; exact Bool.false_ne_true) ⟨.tok I _, .flt _ _ I.pos⟩

theorem Un.neg : Un c n .USub (.int a) (.int (-a)) := by intro A s v R I r; obtain ⟨t₁, rfl⟩ := r.isInt; exact PyProof.Rows.neg_int ⟨.tok I _, .int _ _⟩
theorem Un.inv : Un c n .Invert (.int a) (.int (Builtin.bitNot a)) := by intro A s v R I r; obtain ⟨t₁, rfl⟩ := r.isInt; exact PyProof.Rows.invert_int ⟨.tok I _, .int _ _⟩

theorem Cmp.eqI : Cmp c n .Eq (.int a) (.int b) (.bool (a == b)) := by
  intro A s v₁ v₂ R I r₁ r₂; obtain ⟨t₁, rfl⟩ := r₁.isInt; obtain ⟨t₂, rfl⟩ := r₂.isInt; exact PyProof.Rows.eq_int ⟨.refl I, .bool _⟩
theorem Cmp.neI : Cmp c n .NotEq (.int a) (.int b) (.bool (a != b)) := by
  intro A s v₁ v₂ R I r₁ r₂; obtain ⟨t₁, rfl⟩ := r₁.isInt; obtain ⟨t₂, rfl⟩ := r₂.isInt; exact PyProof.Rows.ne_int ⟨.refl I, .bool _⟩
theorem Cmp.ltI : Cmp c n .Lt (.int a) (.int b) (.bool (decide (a < b))) := by
  intro A s v₁ v₂ R I r₁ r₂; obtain ⟨t₁, rfl⟩ := r₁.isInt; obtain ⟨t₂, rfl⟩ := r₂.isInt; exact PyProof.Rows.lt_int ⟨.refl I, .bool _⟩
theorem Cmp.leI : Cmp c n .LtE (.int a) (.int b) (.bool (decide (a ≤ b))) := by
  intro A s v₁ v₂ R I r₁ r₂; obtain ⟨t₁, rfl⟩ := r₁.isInt; obtain ⟨t₂, rfl⟩ := r₂.isInt; exact PyProof.Rows.le_int ⟨.refl I, .bool _⟩
theorem Cmp.gtI : Cmp c n .Gt (.int a) (.int b) (.bool (decide (b < a))) := by
  intro A s v₁ v₂ R I r₁ r₂; obtain ⟨t₁, rfl⟩ := r₁.isInt; obtain ⟨t₂, rfl⟩ := r₂.isInt; exact PyProof.Rows.gt_int ⟨.refl I, .bool _⟩
/-- floats equal -/
def feq (x y : UInt64) : Bool := Float64.cmp x y == some Ordering.eq
theorem Cmp.eqF : Cmp c n .Eq (.flt x) (.flt y) (.bool (feq x y)) := by
  intro A s v₁ v₂ R I r₁ r₂; obtain ⟨t₁, rfl, _⟩ := r₁.isFlt; obtain ⟨t₂, rfl, _⟩ := r₂.isFlt; exact AutoFloatOps.eq_0 ⟨.refl I, .bool _⟩
theorem Cmp.eqS {u v : Str} : Cmp c n .Eq (.str u) (.str v) (.bool (u == v)) := by
  intro A s v₁ v₂ R I r₁ r₂; obtain ⟨t₁, rfl⟩ := r₁.isStr; obtain ⟨t₂, rfl⟩ := r₂.isStr; exact PyProof.Rows.eq_str ⟨.refl I, .bool _⟩
end

/-! truth -/
theorem Truthy.int {c : Cx} {n : Nat} {a : Int} : Truthy c n (.int a) (a != 0) := by
  intro A s v R I r; obtain ⟨t₁, rfl⟩ := r.isInt
  exact PyProof.Rows.truthy_int ⟨.refl I, rfl⟩

/-! ## Sequences upon data -/
theorem Reps.get {X : List Addr} {h : Heap} : ∀ {vs : List Value} {ds : List D} {k : Nat} {d : D}, Reps X h vs ds → ds[k]? = some d → ∃ v, vs[k]? = some v ∧ Rep X h v d
  | _, _, _, _, .nil, e => by simp at e
  | _, _, 0, d, .cons (v := v) r _, e => ⟨v, by simp, by simp at e; subst e; exact r⟩
  | _, _, k + 1, d, .cons _ r, e => by
    obtain ⟨v, h1, h2⟩ := Reps.get (k := k) r (by simpa using e)
    exact ⟨v, by simpa using h1, h2⟩
theorem Reps.drop {X : List Addr} {h : Heap} : ∀ {vs : List Value} {ds : List D} (k : Nat), Reps X h vs ds → Reps X h (vs.drop k) (ds.drop k)
  | _, _, 0, r => r
  | _, _, _ + 1, .nil => by simp; exact .nil
  | _, _, k + 1, .cons _ r => by simpa using Reps.drop k r
theorem Reps.take {X : List Addr} {h : Heap} : ∀ {vs : List Value} {ds : List D} (k : Nat), Reps X h vs ds → Reps X h (vs.take k) (ds.take k)
  | _, _, 0, r => by simp; exact .nil
  | _, _, _ + 1, .nil => by simp; exact .nil
  | _, _, k + 1, .cons a r => by simpa using .cons a (Reps.take k r)
theorem Reps.ints {X : List Addr} {h : Heap} : ∀ {vs : List Value} {ns : List Int}, Reps X h vs (ns.map D.int) → IntsAre vs ns
  | _, [], .nil => .nil
  | _, n :: ns, .cons r rs => by cases r; exact .cons _ _ (Reps.ints rs)
theorem Reps.strs {X : List Addr} {h : Heap} : ∀ {vs : List Value} {ns : List Str}, Reps X h vs (ns.map D.str) → StrsAre vs ns
  | _, [], .nil => .nil
  | _, n :: ns, .cons r rs => by cases r; exact .cons _ _ (Reps.strs rs)

theorem seqIndex_nat {k : Int} {n : Nat} (h0 : 0 ≤ k) (h1 : k < n) : seqIndex? k n = some k.toNat := by
  unfold seqIndex?
  simp [Int.not_lt.mpr h0, h0, h1]

theorem new_lst {h : Heap} {arr : Array Value} {vs : List Value} {k : Nat} (e : arr = vs.toArray) : (h.push { cls := .type "list", data := .seq arr k }).get? h.objs.size = some (lstObj vs k) := by
  subst e; exact Heap.get?_push_size _ rfl
theorem new_tup {h : Heap} {arr : Array Value} {vs : List Value} {k : Nat} (e : arr = vs.toArray) : (h.push { cls := .type "tuple", data := .seq arr k }).get? h.objs.size = some (tupObj vs k) := by
  subst e; exact Heap.get?_push_size _ rfl
section
variable {c : Cx} {n : Nat}
theorem Truthy.lst {t : Option Addr} {ds : List D} (hl : ds.length ≤ 100000) : Truthy c n (.lst t ds) (!ds.isEmpty) := by
  intro A s v R I r
  rcases r.isLst with ⟨_, _, _, rfl, e, _, _, r⟩
  ·
    have hz := r.length
    refine wpAny_truthy_list (lst_isList e) (by rw [List.size_toArray]; omega) ⟨.tok I _, ?_⟩
    rw [List.isEmpty_toArray]
    cases r <;> rfl
theorem Truthy.none : Truthy c n .none false := by
  intro A s v R I r; cases r; exact truthy_none ⟨.refl I, rfl⟩

theorem Itm.lst {t : Option Addr} {ds : List D} {k : Int} {d : D} (h0 : 0 ≤ k) (h1 : k < 2 ^ 63) (h : ds[k.toNat]? = some d) : Itm c n (.lst t ds) (.int k) d := by
  intro A s v u R I r₁ r₂
  obtain ⟨t₂, rfl⟩ := r₂.isInt
  rcases r₁.isLst with ⟨_, _, _, rfl, e, _, _, r⟩
  ·
    obtain ⟨x, hx, rx⟩ := r.get h
    exact wpAny_getItem_list (lst_isList e) h0 h1 (by simpa using hx) ⟨.refl I, rx⟩
theorem Itm.tup {ds : List D} {k : Int} {d : D} (h0 : 0 ≤ k) (h1 : k < 2 ^ 63) (h : ds[k.toNat]? = some d) : Itm c n (.tup ds) (.int k) d := by
  intro A s v u R I r₁ r₂
  obtain ⟨t₂, rfl⟩ := r₂.isInt
  rcases r₁.isTup with ⟨_, _, _, rfl, e, r⟩
  ·
    obtain ⟨x, hx, rx⟩ := r.get h
    have hk : k.toNat < ds.length := by
      rcases Nat.lt_or_ge k.toNat ds.length with q | q
      · exact q
      · rw [List.getElem?_eq_none_iff.mpr q] at h; cases h
    refine PyProof.Rows.getItem_tuple (tup_isTuple e) (by omega) h1 (seqIndex_nat h0 ?_) (by simpa using hx) ⟨.refl I, rx⟩
    rw [List.size_toArray, r.length]; omega
theorem Itm.str {x : Str} {k : Int} {ch : Nat} (h0 : 0 ≤ k) (h1 : k < 2 ^ 63) (hk : k < x.length) (h : x.cps[k.toNat]? = some ch) : Itm c n (.str x) (.int k) (.str ⟨#[ch]⟩) := by
  intro A s v u R I r₁ r₂
  obtain ⟨t₂, rfl⟩ := r₂.isInt
  obtain ⟨t₁, rfl⟩ := r₁.isStr
  refine PyProof.Rows.getItem_str (by simp; omega) (by rw [seqIndex_nat h0 hk]; exact h) ⟨.tok I _, .str _ _⟩

theorem Bin.addL {t t' : Option Addr} {xs ys : List D} (hz : xs.length + ys.length ≤ 1000) : Bin c n .Add (.lst t xs) (.lst t' ys) (.lst Option.none (xs ++ ys)) := by
  intro A s v₁ v₂ R I r₁ r₂
  rcases r₁.isLst with ⟨_, _, _, rfl, e, _, _, r⟩
  ·
    rcases r₂.isLst with ⟨_, _, _, rfl, e', _, _, r'⟩
    ·
      have z1 := r.length
      have z2 := r'.length
      refine concat_meets ⟨_, e, rfl⟩ ⟨_, e', rfl⟩ noFill_list_add seq_list_add F.slot_list_add F.entry_list_add (F.args_list_add_2 _ _)
        (list_addW _ _ _ _ _ _ _ _ _ _ (by rw [List.size_toArray, List.size_toArray]; exact Nat.le_trans (by omega) (show 1000 ≤ sizeLine by decide))) ⟨e, e', ?_⟩
      refine ⟨.push I _, ?_⟩
      exact .lst (new_lst (vs := _ ++ _) (by simp)) (fun _ q => by cases q) (fun _ => I.new) ((r.app r').ext (.push _ _))
theorem Bin.addT {xs ys : List D} (h1 : xs ≠ []) (h2 : ys ≠ []) (hz : xs.length + ys.length ≤ 1000) : Bin c n .Add (.tup xs) (.tup ys) (.tup (xs ++ ys)) := by
  intro A s v₁ v₂ R I r₁ r₂
  rcases r₁.isTup with ⟨_, _, _, rfl, e, r⟩
  ·
    rcases r₂.isTup with ⟨_, _, _, rfl, e', r'⟩
    ·
      have z1 := r.length
      have z2 := r'.length
      refine P.add_tuple e e' ?_ ?_ ?_ ?_
      · rw [List.isEmpty_toArray, List.isEmpty_iff_length_eq_zero, z1]; cases xs with | nil => exact absurd rfl h1 | cons _ _ => simp
      · rw [List.isEmpty_toArray, List.isEmpty_iff_length_eq_zero, z2]; cases ys with | nil => exact absurd rfl h2 | cons _ _ => simp
      · refine ⟨.push I _, .tup (new_tup (vs := _ ++ _) (by simp)) ((r.app r').ext (.push _ _))⟩
      · rw [List.size_toArray, List.size_toArray]; exact Nat.le_trans (by omega) (show 1000 ≤ sizeLine by decide)
end

theorem Reps.inv {X : List Addr} {h : Heap} {vs : List Value} {d : D} {ds : List D} (r : Reps X h vs (d :: ds)) : ∃ v vs', vs = v :: vs' ∧ Rep X h v d ∧ Reps X h vs' ds := by
  cases r with | cons p q => exact ⟨_, _, rfl, p, q⟩
theorem Reps.inv0 {X : List Addr} {h : Heap} {vs : List Value} (r : Reps X h vs []) : vs = [] := by cases r; rfl
/-! ## Comparing sequences -/
section
variable {c : Cx} {n : Nat}
theorem Cmp.inT {a : Int} {ns : List Int} : Cmp c n .In (.int a) (.tup (ns.map D.int)) (.bool (ns.contains a)) := by
  intro A s v₁ v₂ R I r₁ r₂
  obtain ⟨t₁, rfl⟩ := r₁.isInt
  rcases r₂.isTup with ⟨_, _, _, rfl, e, r⟩
  ·
    have hi := r.ints
    have key : ∀ {vs : List Value} {ns : List Int}, IntsAre vs ns → (∀ y ∈ vs, ∃ k t, y = .int k t) ∧ (vs.any fun y => match y with | .int k _ => k == a | _ => false) = ns.contains a := by
      intro vs ns h
      induction h with
      | nil => exact ⟨(fun _ h => nomatch h), rfl⟩
      | cons k t h ih =>
        refine ⟨fun y hy => ?_, ?_⟩
        · rcases List.mem_cons.mp hy with rfl | hy
          · exact ⟨_, _, rfl⟩
          · exact ih.1 y hy
        · rw [List.any_cons, ih.2, List.contains_cons]
          congr 1
          exact Bool.eq_iff_iff.mpr ⟨fun h => by simpa using (by simpa using h : _ = _).symm, fun h => by simpa using (by simpa using h : _ = _).symm⟩
    obtain ⟨k1, k2⟩ := key hi
    refine SeqAt.in_tupleAt (fun y => match y with | .int k _ => k == a | _ => false) (tup_isTuple e) (fun y hy => ?_) ?_
    · obtain ⟨k, t, rfl⟩ := k1 y (by simpa using hy)
      exact (MeetsSeq.EqGives.int k a t _).at _ _
    · refine ⟨.refl I, ?_⟩
      rw [List.any_toArray, k2]
      exact .bool _
theorem Cmp.inL {a : Str} {ns : List Str} {t : Option Addr} : Cmp c n .In (.str a) (.lst t (ns.map D.str)) (.bool (ns.contains a)) := by
  intro A s v₁ v₂ R I r₁ r₂
  obtain ⟨t₁, rfl⟩ := r₁.isStr
  rcases r₂.isLst with ⟨_, _, _, rfl, e, _, _, r⟩
  ·
    have hi := r.strs
    have key : ∀ {vs : List Value} {ns : List Str}, StrsAre vs ns → (∀ y ∈ vs, ∃ k t, y = .str k t) ∧ (vs.any fun y => match y with | .str k _ => k == a | _ => false) = ns.contains a := by
      intro vs ns h
      induction h with
      | nil => exact ⟨(fun _ h => nomatch h), rfl⟩
      | cons k t h ih =>
        refine ⟨fun y hy => ?_, ?_⟩
        · rcases List.mem_cons.mp hy with rfl | hy
          · exact ⟨_, _, rfl⟩
          · exact ih.1 y hy
        · rw [List.any_cons, ih.2, List.contains_cons]
          congr 1
          exact Bool.eq_iff_iff.mpr ⟨fun h => by simpa using (by simpa using h : _ = _).symm, fun h => by simpa using (by simpa using h : _ = _).symm⟩
    obtain ⟨k1, k2⟩ := key hi
    refine SeqAt.in_listAt (fun y => match y with | .str k _ => k == a | _ => false) (lst_isList e) (fun y hy => ?_) ?_
    · obtain ⟨k, t, rfl⟩ := k1 y (by simpa using hy)
      exact (eqGives_str k a t _).at _ _
    · refine ⟨.refl I, ?_⟩
      rw [List.any_toArray, k2]
      exact .bool _

theorem isSame_float {M : Model} {A : Around} {E : Value → Shared → Prop} {s : Shared} {y z : UInt64} {u v : Tok} {Q : Bool → Shared → Prop} (h0 : 0 < u) (h1 : 0 < v) (hb : NoneBooked s.heap) (hq : ∀ b, Q b s) :
    wpAny M A (isSame (.float y u) (.float z v)) Q E s := by
  show wpAny M A (isSame.created (y == z && !Float64.isNaN y) u v) Q E s
  unfold isSame.created
  refine wpAny_ite ?_
  split
  · rename_i h
    rw [Bool.or_eq_true] at h
    rcases h with h | h
    · have := eq_of_beq h; subst this; exact absurd h0 (Nat.lt_irrefl _)
    · have := eq_of_beq h; subst this; exact absurd h1 (Nat.lt_irrefl _)
  refine wpAny_ite ?_
  split
  · exact wpAny_pure (hq _)
  refine wpAny_ite ?_
  split
  · exact wpAny_pure (hq _)
  refine wpAny_bind (wpAny_sharingNotTold_none hb ?_)
  first | rw [if_neg Bool.false_ne_true] | simp only [Bool.false_eq_true, if_false]
  refine wpAny_bind (wpAny_sharingNotTold_none hb ?_)
  first | rw [if_neg Bool.false_ne_true] | simp only [Bool.false_eq_true, if_false]
  exact wpAny_bind (wpAny_rule (wpAny_bind (wpAny_askSetting (wpAny_pure (hq _)))))
theorem eqAt_float {A : Around} {s : Shared} {x y : UInt64} {t u : Tok} (hx : feq x y = true) (h0 : 0 < t) (h1 : 0 < u) (hb : NoneBooked s.heap) : SeqAt.EqAt A s (.float x t) (.float y u) true := by
  intro prog w E Q h
  unfold eqBool
  refine wpAny_holding ?_
  refine wpAny_ite_split (fun hab => ?_) (fun _ => ?_)
  · exact wpAny_bind (wpAny_rule (wpAny_pure h))
  · refine wpAny_bind (isSame_float h0 h1 hb fun b => ?_)
    cases b with
    | true => exact wpAny_pure h
    | false =>
      refine wpAny_bind (richCompare_gives (op := .Eq) (AutoFloatOps.typeIs_float s x t) (AutoFloatOps.typeIs_float s y u) F.slot_float_eq F.entry_float_eq (F.args_float_eq_2 _ _) (AutoFloatG5.float___eq___float_float_0 x t y u) (fun x => nomatch x) ?_)
      have : (Float64.cmp x y == some Ordering.eq) = true := hx
      show wpAny _ _ (truthOfDropped (.bool (Float64.cmp x y == some Ordering.eq))) _ _ _
      rw [this]
      exact wpAny_truthy_bool h
/-- pairs of floats that are equal -/
theorem Cmp.neT {a b x y : UInt64} (ha : feq a x = true) (hb : feq b y = true) : Cmp c n .NotEq (.tup [.flt a, .flt b]) (.tup [.flt x, .flt y]) (.bool false) := by
  intro A s v₁ v₂ R I r₁ r₂
  rcases r₁.isTup with ⟨_, _, _, rfl, e, r⟩
  ·
    rcases r₂.isTup with ⟨_, _, _, rfl, e', r'⟩
    ·
      obtain ⟨v0, vs0, rfl, r0, r⟩ := r.inv
      obtain ⟨v1, vs1, rfl, r1, r⟩ := r.inv
      cases r.inv0
      obtain ⟨u0, us0, rfl, q0, r'⟩ := r'.inv
      obtain ⟨u1, us1, rfl, q1, r'⟩ := r'.inv
      cases r'.inv0
      obtain ⟨t0, rfl, p0⟩ := r0.isFlt
      obtain ⟨t1, rfl, p1⟩ := r1.isFlt
      obtain ⟨t2, rfl, p2⟩ := q0.isFlt
      obtain ⟨t3, rfl, p3⟩ := q1.isFlt
      have nb : NoneBooked s.heap := let ⟨mc, h1, h2⟩ := c.book; ⟨mc, I.ns h1, h2⟩
      refine SeqAt.RcNeAt.tuples (e := fun j => true) (tup_isTuple e) (tup_isTuple e') R.unitsLt (fun j h1 h2 => ?_) c.prog c.w _ _ ?_
      · match j, h1 with
        | 0, _ => exact eqAt_float ha p0 p2 nb
        | 1, _ => exact eqAt_float hb p1 p3 nb
      · refine ⟨.refl I, ?_⟩
        have : (!((List.range (min [Value.float a t0, Value.float b t1].toArray.size [Value.float x t2, Value.float y t3].toArray.size)).all (fun j => true) && [Value.float a t0, Value.float b t1].toArray.size == [Value.float x t2, Value.float y t3].toArray.size)) = false := by
          simp [List.range, List.range.loop]
        rw [this]
        exact .bool _
theorem Cmp.neL {t t' : Option Addr} {xs ys : List Int} (hn : 7 ≤ n) : Cmp c n .NotEq (.lst t (xs.map D.int)) (.lst t' (ys.map D.int)) (.bool (!decide (xs = ys))) := by
  intro A s v₁ v₂ R I r₁ r₂
  rcases r₁.isLst with ⟨_, _, _, rfl, e, _, _, r⟩
  ·
    rcases r₂.isLst with ⟨_, _, _, rfl, e', _, _, r'⟩
    ·
      exact ke_ne_ints (lst_isList e) (lst_isList e') r.ints r'.ints (by have := R.un; omega) ⟨.refl I, .bool _⟩
end

/-! ## The greatest and the least -/
def fgt (x y : UInt64) : Bool := Float64.cmp x y == some Ordering.gt
def fless (x y : UInt64) : Bool := Float64.cmp x y == some Ordering.lt
def fmax3 (x y z : UInt64) : UInt64 := if fgt z (if fgt y x then y else x) then z else if fgt y x then y else x
def fmin3 (x y z : UInt64) : UInt64 := if fless z (if fless y x then y else x) then z else if fless y x then y else x
def imin3 (x y z : Int) : Int := if z < (if y < x then y else x) then z else if y < x then y else x

theorem one_of {X : List Addr} {h : Heap} {vs : List Value} {x : D} (r : Reps X h vs [x]) : ∃ a, vs = [a] ∧ Rep X h a x := by
  obtain ⟨a, vs, rfl, p, r⟩ := r.inv
  cases r.inv0
  exact ⟨a, rfl, p⟩
/-- three values that stand for three data -/
theorem three_of {X : List Addr} {h : Heap} {vs : List Value} {x y z : D} (r : Reps X h vs [x, y, z]) : ∃ a b c, vs = [a, b, c] ∧ Rep X h a x ∧ Rep X h b y ∧ Rep X h c z := by
  obtain ⟨a, vs, rfl, p, r⟩ := r.inv
  obtain ⟨b, vs, rfl, q, r⟩ := r.inv
  obtain ⟨c, vs, rfl, w, r⟩ := r.inv
  cases r.inv0
  exact ⟨a, b, c, rfl, p, q, w⟩

def at3 {α : Type} (x y z : α) : Nat → α
  | 0 => x
  | 1 => y
  | _ => z
theorem at3_get {a b c : Value} {i : Nat} {v : Value} (h : #[a, b, c][i]? = some v) : v = at3 a b c i := by
  match i, h with
  | 0, h => simpa [at3] using h.symm
  | 1, h => simpa [at3] using h.symm
  | 2, h => simpa [at3] using h.symm
  | i + 3, h => simp at h
theorem best3 {bt : Nat → Nat → Bool} : argBest bt 2 = if bt 2 (if bt 1 0 then 1 else 0) then 2 else if bt 1 0 then 1 else 0 := by
  simp only [argBest, Nat.zero_add, Nat.reduceAdd]

section
variable {prog : Program} {w : World} {A : Around} {s : Shared} {E : Value → Shared → Prop} {x y z : UInt64} {t u k : Tok}
theorem cmp_floats {op : CmpOp} {id : String} {B : Builtin} {g : UInt64 → UInt64 → Bool} (slot : Slot "float" (cmpInfo op).2.1 id) (entry : entryFor table id = some B) (args : ∀ a b, argsOk id ⟨[a, b], []⟩) (m : ∀ a t b u, PySem.Gives (B ⟨[.float a t, .float b u], []⟩) (.val (.bool (g a b)))) :
    CmpOf prog w A op (fun i v => #[Value.float x t, Value.float y u, Value.float z k][i]? = some v) (fun i j => g (at3 x y z i) (at3 x y z j)) := by
  intro i j vi vj s Q E hi hj h
  have e : ∀ (i : Nat) (v : Value), #[Value.float x t, Value.float y u, Value.float z k][i]? = some v → ∃ t, v = Value.float (at3 x y z i) t := by
    intro i v h
    match i, h with
    | 0, h => exact ⟨t, by simpa [at3] using h.symm⟩
    | 1, h => exact ⟨u, by simpa [at3] using h.symm⟩
    | 2, h => exact ⟨k, by simpa [at3] using h.symm⟩
    | i + 3, h => simp at h
  obtain ⟨_, rfl⟩ := e i vi hi
  obtain ⟨_, rfl⟩ := e j vj hj
  exact richCompare_gives (op := op) (AutoFloatOps.typeIs_float s _ _) (AutoFloatOps.typeIs_float s _ _) slot entry (args _ _) (m _ _ _ _) (fun x => nomatch x) h
theorem cmp_ints {op : CmpOp} {id : String} {B : Builtin} {g : Int → Int → Bool} {x y z : Int} (slot : Slot "int" (cmpInfo op).2.1 id) (entry : entryFor table id = some B) (args : ∀ a b, argsOk id ⟨[a, b], []⟩) (m : ∀ a t b u, PySem.Gives (B ⟨[.int a t, .int b u], []⟩) (.val (.bool (g a b)))) :
    CmpOf prog w A op (fun i v => #[Value.int x t, Value.int y u, Value.int z k][i]? = some v) (fun i j => g (at3 x y z i) (at3 x y z j)) := by
  intro i j vi vj s Q E hi hj h
  have e : ∀ (i : Nat) (v : Value), #[Value.int x t, Value.int y u, Value.int z k][i]? = some v → ∃ t, v = Value.int (at3 x y z i) t := by
    intro i v h
    match i, h with
    | 0, h => exact ⟨t, by simpa [at3] using h.symm⟩
    | 1, h => exact ⟨u, by simpa [at3] using h.symm⟩
    | 2, h => exact ⟨k, by simpa [at3] using h.symm⟩
    | i + 3, h => simp at h
  obtain ⟨_, rfl⟩ := e i vi hi
  obtain ⟨_, rfl⟩ := e j vj hj
  exact richCompare_gives (op := op) (typeIs_int s _ _) (typeIs_int s _ _) slot entry (args _ _) (m _ _ _ _) (fun x => nomatch x) h
end

theorem kept_push {h : Heap} {o : Obj} {h' : Heap} (hk : ∀ b x, b ∉ [h.objs.size] → (h.push o).get? b = some x → h'.get? b = some x) : ∀ b x, h.get? b = some x → h'.get? b = some x :=
  fun b x e => hk b x (fun hm => by rw [List.mem_singleton.mp hm] at e; exact Nat.lt_irrefl _ (Heap.lt_size e)) (Heap.get?_push_of_some _ e)

section
variable {c : Cx} {n : Nat}
theorem best_flt {s : Shared} {x y z : UInt64} {t u k : Tok} {g : UInt64 → UInt64 → Bool} {v : Value} (hP : #[Value.float x t, Value.float y u, Value.float z k][argBest (fun i j => g (at3 x y z i) (at3 x y z j)) 2]? = some v) (p0 : 0 < t) (p1 : 0 < u) (p2 : 0 < k) (h' : Heap) :
    Rep c.X h' v (.flt (if g z (if g y x then y else x) then z else if g y x then y else x)) := by
  rw [best3] at hP
  simp only [at3] at hP
  cases h1 : g y x <;> simp only [h1, Bool.false_eq_true, if_false, if_true] at hP ⊢
  · cases h2 : g z x <;> simp [h2, at3] at hP ⊢ <;> subst hP <;> exact .flt _ _ (by assumption)
  · cases h2 : g z y <;> simp [h2, at3] at hP ⊢ <;> subst hP <;> exact .flt _ _ (by assumption)

theorem CallTo.max3 {x y z : UInt64} : CallTo c n (.builtin "max") [.flt x, .flt y, .flt z] (.flt (fmax3 x y z)) := by
  intro A s vs R I r
  obtain ⟨a, b, d, rfl, r0, r1, r2⟩ := three_of r
  obtain ⟨t0, rfl, p0⟩ := r0.isFlt
  obtain ⟨t1, rfl, p1⟩ := r1.isFlt
  obtain ⟨t2, rfl, p2⟩ := r2.isFlt
  have hT : (s.heap.push { cls := .type "tuple", data := .seq #[.float x t0, .float y t1, .float z t2] }).IsTuple s.heap.objs.size #[.float x t0, .float y t1, .float z t2] := ⟨_, Heap.get?_push_size _ rfl, rfl, 0, rfl⟩
  have hsz : (s.heap.push { cls := .type "tuple", data := .seq #[.float x t0, .float y t1, .float z t2] }).objs.size = s.heap.objs.size + 1 := Heap.size_push ..
  refine wpAny_tk (call_max_three (wpAny_pyIter_tuple hT ?_))
  refine ⟨_, [_, s.heap.objs.size], [_], _, _, _, _, rfl, Walks.tuple (A := A.in1) R.hd _ s.heap.objs.size (by rw [hsz]; exact Nat.ne_of_lt (Nat.lt_succ_self _)) #[.float x t0, .float y t1, .float z t2],
    ⟨⟨_, Heap.get?_push_size _ rfl, rfl, rfl⟩, hT.push _⟩, fun c hc => ?_, Nat.succ_pos 2, cmp_floats F.slot_float_gt F.entry_float_gt F.args_float_gt_2 AutoFloatG4.float___gt___float_float_0, fun v h' tk hP hk htk => ?_⟩
  · show c < ((s.heap.push _).push _).objs.size
    rw [Heap.size_push, hsz]
    rcases List.mem_cons.mp hc with rfl | hc
    · rw [hsz]; exact Nat.lt_succ_self _
    · rcases List.mem_cons.mp hc with rfl | hc
      · exact Nat.lt_succ_of_lt (Nat.lt_succ_self _)
      · cases hc
  · exact ⟨.keep I (fun b o e => kept_push hk b o (Heap.get?_push_of_some _ e)) htk, best_flt (s := s) hP p0 p1 p2 h'⟩
theorem CallTo.min3 {x y z : UInt64} : CallTo c n (.builtin "min") [.flt x, .flt y, .flt z] (.flt (fmin3 x y z)) := by
  intro A s vs R I r
  obtain ⟨a, b, d, rfl, r0, r1, r2⟩ := three_of r
  obtain ⟨t0, rfl, p0⟩ := r0.isFlt
  obtain ⟨t1, rfl, p1⟩ := r1.isFlt
  obtain ⟨t2, rfl, p2⟩ := r2.isFlt
  have hT : (s.heap.push { cls := .type "tuple", data := .seq #[.float x t0, .float y t1, .float z t2] }).IsTuple s.heap.objs.size #[.float x t0, .float y t1, .float z t2] := ⟨_, Heap.get?_push_size _ rfl, rfl, 0, rfl⟩
  have hsz : (s.heap.push { cls := .type "tuple", data := .seq #[.float x t0, .float y t1, .float z t2] }).objs.size = s.heap.objs.size + 1 := Heap.size_push ..
  refine wpAny_tk (call_min_three (wpAny_pyIter_tuple hT ?_))
  refine ⟨_, [_, s.heap.objs.size], [_], _, _, _, _, rfl, Walks.tuple (A := A.in1) R.hd _ s.heap.objs.size (by rw [hsz]; exact Nat.ne_of_lt (Nat.lt_succ_self _)) #[.float x t0, .float y t1, .float z t2],
    ⟨⟨_, Heap.get?_push_size _ rfl, rfl, rfl⟩, hT.push _⟩, fun c hc => ?_, Nat.succ_pos 2, cmp_floats F.slot_float_lt F.entry_float_lt F.args_float_lt_2 AutoFloatG5.float___lt___float_float_0, fun v h' tk hP hk htk => ?_⟩
  · show c < ((s.heap.push _).push _).objs.size
    rw [Heap.size_push, hsz]
    rcases List.mem_cons.mp hc with rfl | hc
    · rw [hsz]; exact Nat.lt_succ_self _
    · rcases List.mem_cons.mp hc with rfl | hc
      · exact Nat.lt_succ_of_lt (Nat.lt_succ_self _)
      · cases hc
  · exact ⟨.keep I (fun b o e => kept_push hk b o (Heap.get?_push_of_some _ e)) htk, best_flt (s := s) hP p0 p1 p2 h'⟩
theorem iter3 {prog : Program} {w : World} {A : Around} {E : Value → Shared → Prop} {s : Shared} {l : Addr} {vs : List Value} {m : Nat} {Q : Value → Shared → Prop} (hl : s.heap.get? l = some (lstObj vs m))
    (h : let s₂ : Shared := { s with heap := s.heap.push { cls := .type "list_iterator", data := .fields #[.ref l, .int 0 0] } }
      (s₂.heap.IsListIter s.heap.objs.size l 0 ∧ s₂.heap.IsList l vs.toArray) → (∀ b ∈ [s.heap.objs.size, l], b < s₂.heap.objs.size) → l ≠ s.heap.objs.size → Q (.ref s.heap.objs.size) s₂) :
    wpAny (model prog w) A (pyIter (.ref l)) Q E s := by
  have hlt : l < s.heap.objs.size := Heap.lt_size hl
  refine wpAny_pyIter_list (lst_isList hl) (h ⟨⟨_, Heap.get?_push_size _ rfl, rfl, rfl⟩, (lst_isList hl).push _⟩ (fun b hb => ?_) (Nat.ne_of_lt hlt))
  show b < (s.heap.push _).objs.size
  rw [Heap.size_push]
  rcases List.mem_cons.mp hb with rfl | hb
  · exact Nat.lt_succ_self _
  · rcases List.mem_cons.mp hb with rfl | hb
    · exact Nat.lt_succ_of_lt hlt
    · cases hb
theorem CallTo.maxL {x y z : UInt64} {tg : Option Addr} : CallTo c n (.builtin "max") [.lst tg [.flt x, .flt y, .flt z]] (.flt (fmax3 x y z)) := by
  intro A s vs R I r
  obtain ⟨v, rfl, rr⟩ := one_of r
  rcases rr.isLst with ⟨_, _, _, rfl, e, _, _, r⟩
  ·
    obtain ⟨a, b, d, rfl, r0, r1, r2⟩ := three_of r
    obtain ⟨t0, rfl, p0⟩ := r0.isFlt
    obtain ⟨t1, rfl, p1⟩ := r1.isFlt
    obtain ⟨t2, rfl, p2⟩ := r2.isFlt
    refine wpAny_tk (call_max_walk (iter3 e fun st hfp hlI => ?_))
    refine ⟨_, _, _, _, _, _, _, rfl, Walks.list (A := A.in1) R.hd _ _ hlI #[.float x t0, .float y t1, .float z t2], st, hfp, Nat.succ_pos 2, cmp_floats F.slot_float_gt F.entry_float_gt F.args_float_gt_2 AutoFloatG4.float___gt___float_float_0, fun v h' tk hP hk htk => ?_⟩
    exact ⟨.keep I (kept_push hk) htk, best_flt (s := s) hP p0 p1 p2 h'⟩
theorem CallTo.minL {x y z : UInt64} {tg : Option Addr} : CallTo c n (.builtin "min") [.lst tg [.flt x, .flt y, .flt z]] (.flt (fmin3 x y z)) := by
  intro A s vs R I r
  obtain ⟨v, rfl, rr⟩ := one_of r
  rcases rr.isLst with ⟨_, _, _, rfl, e, _, _, r⟩
  ·
    obtain ⟨a, b, d, rfl, r0, r1, r2⟩ := three_of r
    obtain ⟨t0, rfl, p0⟩ := r0.isFlt
    obtain ⟨t1, rfl, p1⟩ := r1.isFlt
    obtain ⟨t2, rfl, p2⟩ := r2.isFlt
    refine wpAny_tk (call_min_walk (iter3 e fun st hfp hlI => ?_))
    refine ⟨_, _, _, _, _, _, _, rfl, Walks.list (A := A.in1) R.hd _ _ hlI #[.float x t0, .float y t1, .float z t2], st, hfp, Nat.succ_pos 2, cmp_floats F.slot_float_lt F.entry_float_lt F.args_float_lt_2 AutoFloatG5.float___lt___float_float_0, fun v h' tk hP hk htk => ?_⟩
    exact ⟨.keep I (kept_push hk) htk, best_flt (s := s) hP p0 p1 p2 h'⟩
theorem CallTo.minI {x y z : Int} {tg : Option Addr} : CallTo c n (.builtin "min") [.lst tg [.int x, .int y, .int z]] (.int (imin3 x y z)) := by
  intro A s vs R I r
  obtain ⟨v, rfl, rr⟩ := one_of r
  rcases rr.isLst with ⟨_, _, _, rfl, e, _, _, r⟩
  ·
    obtain ⟨a, b, d, rfl, r0, r1, r2⟩ := three_of r
    obtain ⟨t0, rfl⟩ := r0.isInt
    obtain ⟨t1, rfl⟩ := r1.isInt
    obtain ⟨t2, rfl⟩ := r2.isInt
    refine wpAny_tk (call_min_walk (iter3 e fun st hfp hlI => ?_))
    refine ⟨_, _, _, _, _, _, _, rfl, Walks.list (A := A.in1) R.hd _ _ hlI #[.int x t0, .int y t1, .int z t2], st, hfp, Nat.succ_pos 2, cmp_ints F.slot_int_lt F.entry_int_lt F.args_int_lt_2 (fun a t b u => gives_int_lt a b t u), fun v h' tk hP hk htk => ?_⟩
    refine ⟨.keep I (kept_push hk) htk, ?_⟩
    have hP' : #[Value.int x t0, Value.int y t1, Value.int z t2][argBest (fun i j => decide (at3 x y z i < at3 x y z j)) 2]? = some v := hP
    rw [best3] at hP'
    simp only [at3] at hP'
    unfold imin3
    by_cases h1 : y < x <;> simp only [h1, decide_true, decide_false, Bool.false_eq_true, if_false, if_true] at hP' ⊢
    · by_cases h2 : z < y <;> simp [h2, at3] at hP' ⊢ <;> subst hP' <;> exact .int _ _
    · by_cases h2 : z < x <;> simp [h2, at3] at hP' ⊢ <;> subst hP' <;> exact .int _ _
theorem two_of {X : List Addr} {h : Heap} {vs : List Value} {x y : D} (r : Reps X h vs [x, y]) : ∃ a b, vs = [a, b] ∧ Rep X h a x ∧ Rep X h b y := by
  obtain ⟨a, vs, rfl, p, r⟩ := r.inv
  obtain ⟨b, vs, rfl, q, r⟩ := r.inv
  cases r.inv0
  exact ⟨a, b, rfl, p, q⟩
theorem CallTo.max2 {x y : Int} : CallTo c n (.builtin "max") [.int x, .int y] (.int (if y > x then y else x)) := by
  intro A s vs R I r
  obtain ⟨a, b, rfl, r0, r1⟩ := two_of r
  obtain ⟨t0, rfl⟩ := r0.isInt
  obtain ⟨t1, rfl⟩ := r1.isInt
  refine wpAny_tk (max_two_ints R.hd fun h' tk hk htk => ⟨.keep I hk htk, ?_⟩)
  split <;> exact .int _ _
theorem CallTo.min2 {x y : Int} : CallTo c n (.builtin "min") [.int x, .int y] (.int (if y < x then y else x)) := by
  intro A s vs R I r
  obtain ⟨a, b, rfl, r0, r1⟩ := two_of r
  obtain ⟨t0, rfl⟩ := r0.isInt
  obtain ⟨t1, rfl⟩ := r1.isInt
  refine wpAny_tk (min_two_ints R.hd fun h' tk hk htk => ⟨.keep I hk htk, ?_⟩)
  split <;> exact .int _ _
end

/-! ## Built-in functions and methods -/
def fround (x : UInt64) : Int := Flt.toInt Float64.nearestOf x
section
variable {c : Cx} {n : Nat}
theorem fin_kinds {x : UInt64} (h : Float64.isFinite x = true) : ¬ Float64.isNaN x = true ∧ ¬ Float64.isInf x = true := by
  unfold Float64.isFinite at h
  unfold Float64.isNaN Float64.isInf
  cases q : Float64.decode x <;> rw [q] at h <;> simp_all
theorem CallTo.round {x : UInt64} (hx : Float64.isFinite x = true) : CallTo c n (.builtin "round") [.flt x] (.int (fround x)) := by
  intro A s vs R I r
  obtain ⟨v, rfl, rr⟩ := one_of r
  obtain ⟨t, rfl, _⟩ := rr.isFlt
  exact Flt.call_round_float R.hd (fun h => absurd h (fin_kinds hx).1) (fun h => absurd h (fin_kinds hx).2) fun _ => ⟨.tok I _, .int _ _⟩
theorem CallTo.range {k : Int} : CallTo c n (.type "range") [.int k] (.rng 0 k) := by
  intro A s vs R I r
  obtain ⟨v, rfl, rr⟩ := one_of r
  obtain ⟨t, rfl⟩ := rr.isInt
  refine call_range_1 ⟨.keep I (fun b o e => Heap.get?_push_of_some _ e) (by show s.toks ≤ s.toks + 1 + 1; omega), ?_⟩
  exact .rng (Heap.get?_push_size _ rfl)
theorem CallTo.len {tg : Option Addr} {ds : List D} (hl : ds.length ≤ 100000) : CallTo c n (.builtin "len") [.lst tg ds] (.int ds.length) := by
  intro A s vs R I r
  obtain ⟨v, rfl, rr⟩ := one_of r
  rcases rr.isLst with ⟨_, _, _, rfl, e, _, _, r⟩
  ·
    have hz := r.length
    refine Calls.call_len_list (lst_isList e) (by rw [List.size_toArray]; omega) ⟨.tok I _ (by show s.toks ≤ s.toks + 1 + 1; omega), ?_⟩
    rw [List.size_toArray, hz]
    exact .int _ _
theorem CallTo.sum {ns : List Int} : CallTo c n (.builtin "sum") [.scr ns] (.int ns.sum) := by
  intro A s vs R I r
  obtain ⟨v, rfl, rr⟩ := one_of r
  rcases rr.isScr with ⟨a, vs, rfl, hl, hi, _⟩
  ·
    obtain ⟨xs, hx⟩ := hi.allInts.items
    have hl' : s.heap.IsList a (intItems xs) := hx ▸ hl
    refine wpAny_tk (sum_intListG R.hd hl' fun h' tk t' hk htk => ⟨.keep I hk htk, ?_⟩)
    have e1 : ns = xs.toList.map (·.1) := by
      rw [← nums_intItems, ← hx]
      exact (show numsOf vs.toArray.toList = ns from hi.numsOf).symm
    have e2 : preSum (numAt xs) xs.size = ns.sum := by
      rw [preSum_eq, List.take_of_length_le (by simp), e1]
    rw [e2]
    exact .int _ _
theorem CallTo.str {a : Int} (ha : a.natAbs < 2 ^ 64) : CallTo c n (.type "str") [.int a] (.str (toString a)) := by
  intro A s vs R I r
  obtain ⟨v, rfl, rr⟩ := one_of r
  obtain ⟨t, rfl⟩ := rr.isInt
  refine P.str_of_int ?_ ⟨.tok I _, .str _ _⟩
  by_cases h0 : a.natAbs = 0
  · rw [h0]; decide
  · exact Nat.lt_trans ((Nat.log2_lt h0).mpr ha) (by decide)
theorem CallTo.int {a : Int} (h0 : 0 ≤ a) (h1 : a < 10 ^ 10) : CallTo c n (.type "int") [.str (toString a)] (.int a) := by
  intro A s vs R I r
  obtain ⟨v, rfl, rr⟩ := one_of r
  obtain ⟨t, rfl⟩ := rr.isStr
  exact PySem.W.KIN.call_num h0 h1 ⟨.tok I _, .int _ _⟩
theorem CallTo.divmod {a b : Int} (hb : b ≠ 0) (hs : b.natAbs < 1073741824) : CallTo c n (.builtin "divmod") [.int a, .int b] (.tup [.int (a.fdiv b), .int (a.fmod b)]) := by
  intro A s vs R I r
  obtain ⟨v, u, rfl, r0, r1⟩ := two_of r
  obtain ⟨t0, rfl⟩ := r0.isInt
  obtain ⟨t1, rfl⟩ := r1.isInt
  refine divmod_int hb ⟨.keep I (fun b o e => Heap.get?_push_of_some _ e) (by show s.toks ≤ s.toks + 1 + 1; omega), ?_⟩ (hp := Or.inl (PyProof.noPylong_small hs))
  exact .tup (new_tup (vs := [_, _]) rfl) (.cons (.int _ _) (.cons (.int _ _) .nil))
theorem CallTo.bits {a : Int} : CallTo c n (.builtin "int.bit_length") [.int a] (.int (Builtin.Int.intBits a : Nat)) := by
  intro A s vs R I r
  obtain ⟨v, rfl, rr⟩ := one_of r
  obtain ⟨t, rfl⟩ := rr.isInt
  exact call_gives F.slot_int_bit_length (typeIs_int s a t) F.entry_int_bit_length (F.args_int_bit_length_1 _) (AutoIntG2.int_bit_length_int_0 a t) ⟨.tok I _, .int _ _⟩
/-- the place of a number in a list -/
theorem CallTo.index {tg : Option Addr} {ns : List Int} {a : Int} {j : Nat} (hj : ns[j]? = some a) (hno : ∀ m, m < j → ns[m]? ≠ some a) (hs : j ≤ 1000) : CallTo c n (.builtin "list.index") [.lst tg (ns.map D.int), .int a] (.int j) := by
  intro A s vs R I r
  obtain ⟨v, u, rfl, r0, r1⟩ := two_of r
  obtain ⟨t1, rfl⟩ := r1.isInt
  rcases r0.isLst with ⟨l, vs, k, rfl, e, _, _, r⟩
  ·
    have hi := r.ints
    have key : ∀ {vs : List Value} {ns : List Int}, IntsAre vs ns → ∀ {j : Nat} {v : Value}, vs[j]? = some v → ∃ k t, ns[j]? = some k ∧ v = .int k t := by
      intro vs ns h
      induction h with
      | nil => intro j v e; simp at e
      | cons k t h ih =>
        intro j v e
        cases j with
        | zero => simp at e; exact ⟨k, t, by simp, e.symm⟩
        | succ j => simpa using ih (j := j) (by simpa using e)
    have hlen : vs.length = ns.length := by rw [r.length, List.length_map]
    have hjl : j < ns.length := by
      rcases Nat.lt_or_ge j ns.length with q | q
      · exact q
      · rw [List.getElem?_eq_none_iff.mpr q] at hj; cases hj
    have at' : ∀ m (hm : m < vs.toArray.size), ∃ k t, ns[m]? = some k ∧ vs.toArray[m] = .int k t := by
      intro m hm
      exact key hi (by rw [List.size_toArray] at hm; simp [hm])
    refine call_meets F.slot_list_index ⟨_, e, rfl⟩ F.entry_list_index (F.args_list_index_2 _ _)
      (SeqAt.list_indexAt l vs.toArray k _ _ (.int a t1) (fun y => match y with | .int k _ => k == a | _ => false) j (by rw [List.size_toArray, hlen]; exact hjl) (by omega) ?_ ?_) ⟨e, fun y hy => ?_, ⟨.tok I _, .int _ _⟩⟩
    · obtain ⟨k, t, e1, e2⟩ := at' j (by rw [List.size_toArray, hlen]; exact hjl)
      rw [hj] at e1; cases e1
      rw [e2]; simp
    · intro m hm hlt
      obtain ⟨k, t, e1, e2⟩ := at' m hm
      rw [e2]
      have := hno m hlt
      rw [e1] at this
      simpa using this
    · obtain ⟨i, hi', rfl⟩ := Array.getElem_of_mem hy
      obtain ⟨k, t, e1, e2⟩ := at' i hi'
      rw [e2]
      exact (MeetsSeq.EqGives.int k a t _).at _ _
theorem CallTo.join {tg : Option Addr} {ss : List Str} (hw : (ss.map (·.length)).sum + ss.length ≤ 1048576) : CallTo c n (.builtin "str.join") [.str ⟨#[]⟩, .lst tg (ss.map D.str)] (.str (Txt.join ⟨#[]⟩ ss)) := by
  intro A s vs R I r
  obtain ⟨v, u, rfl, r0, r1⟩ := two_of r
  obtain ⟨t1, rfl⟩ := r0.isStr
  rcases r1.isLst with ⟨_, _, _, rfl, e, _, _, r⟩
  ·
    refine wpAny_tk (join_listW (lst_isList e) (by simpa using r.strs) (by decide) hw fun t' k htk => ⟨.tok I _ htk, .str _ _⟩)
end

/-! ## Slices -/
section
variable {prog : Program} {w : World} {A : Around} {E : Value → Shared → Prop} {s : Shared}
theorem adjust_to (a n : Nat) (ha : a ≤ n) : Builtin.Slice.sliceAdjust none (some (a : Int)) 1 (n : Int) = (0, (a : Int)) := by
  unfold Builtin.Slice.sliceAdjust
  have h1 : ¬ ((1 : Int) < 0) := by omega
  have h2 : ¬ ((a : Int) < 0) := by omega
  simp only [h1, h2, if_false]
  congr 1
  omega
theorem places_to (a : Nat) : Builtin.Slice.slicePlaces 0 (a : Int) 1 = a := by
  unfold Builtin.Slice.slicePlaces
  have h1 : (1 : Int) > 0 := by omega
  simp only [h1, if_true, Int.ediv_one]
  split <;> omega
theorem sliceApplied_to {sl : Addr} {a n : Nat} {u : Tok} {Q : Int × Int × Nat → Shared → Prop} (hs : s.heap.IsSliceOf sl .none (.int a u) .none) (ha : a ≤ n) (h : Q (0, 1, a) s) :
    wpAny (model prog w) A (Builtin.Slice.sliceApplied (.ref sl) (pure (n : Int))) Q E s := by
  obtain ⟨os, hos, hcs, hds⟩ := id hs
  unfold Builtin.Slice.sliceApplied Builtin.Slice.sliceFields
  refine wpAny_bind (wpAny_bind (wpAny_field hos hds (x := .none) rfl (wpAny_bind (wpAny_field hos hds (x := .int a u) rfl (wpAny_bind (wpAny_field hos hds (x := .none) rfl (wpAny_pure ?_)))))))
  refine wpAny_bind (slicePart_none ?_)
  show wpAny _ _ (if ((1 : Int) == 0) = true then _ else _) _ _ s
  rw [if_neg (by decide)]
  refine wpAny_bind (slicePart_none (wpAny_bind (slicePart_int (wpAny_bind (wpAny_pure ?_)))))
  show wpAny _ _ (match Builtin.Slice.sliceAdjust none (some (a : Int)) 1 (n : Int) with | (lo, hi) => pure (lo, (1 : Int), Builtin.Slice.slicePlaces lo hi 1)) _ _ s
  rw [adjust_to a n ha]
  show wpAny _ _ (pure ((0 : Int), (1 : Int), Builtin.Slice.slicePlaces (0 : Int) (a : Int) 1)) _ _ s
  rw [places_to a]
  exact wpAny_pure h
theorem pick_to (xs : List Value) (a : Nat) (ha : a ≤ xs.length) : ((List.range a).filterMap fun (k : Nat) => xs.toArray[((0 : Int) + (k : Int) * 1).toNat]?).toArray = (xs.take a).toArray := by
  congr 1
  have e : (fun (k : Nat) => xs.toArray[((0 : Int) + (k : Int) * 1).toNat]?) = fun k => xs[k]? := by
    funext k
    have : ((0 : Int) + (k : Int) * 1).toNat = k := by omega
    rw [this]; simp
  rw [e]
  clear e
  induction a with
  | zero => simp
  | succ a ih =>
    rw [List.range_succ, List.filterMap_append, ih (by omega), List.take_succ_eq_append_getElem (by omega)]
    simp [List.getElem?_eq_getElem (show a < xs.length by omega)]
theorem getItem_tuple_to {t sl : Addr} {items : List Value} {a : Nat} {u : Tok} {Q : Value → Shared → Prop} (ht : IsTup s.heap t items.toArray) (hs : s.heap.IsSliceOf sl .none (.int a u) .none) (ha : a < items.length)
    (h : Q (.ref s.heap.objs.size) { s with heap := s.heap.push { cls := .type "tuple", data := .seq (items.take a).toArray } })
    (hsz : items.length ≤ sizeLine) : wpAny (model prog w) A (getItem (.ref t) (.ref sl)) Q E s := by
  have hdrop : sizeOk (.seq (items.take a).toArray) := by
    show (items.take a).toArray.size ≤ sizeLine
    rw [List.size_toArray, List.length_take]
    omega
  obtain ⟨os, hos, hcs, hds⟩ := id hs
  have hTs : s.TypeIs (.ref sl) "slice" := ⟨os, hos, hcs⟩
  unfold getItem
  try with_reducible refine wpAny_holding ?_
  first | refine wpAny_bind (wpAny_pure ?_) | skip
  refine wpAny_bind (wpAny_sequenceKey ht.typeIs (by decide) ?_)
  refine wpAny_bind (wpAny_callSpecial?_slot (name := Str.ofString "__getitem__") ht.typeIs slot_tuple_getitem
    (wpAny_call_entry slot_tuple_getitem ht.typeIs entry_tuple_getitem ?_ (args_tuple_getitem _ _)))
  show wpAny _ _ (Builtin.Tuple.tupleItemsOf (.ref t) >>= _) _ _ s
  refine wpAny_bind (tupleItemsOf_ ht ?_)
  refine wpAny_bind (wpAny_typeOf hTs ?_)
  rw [if_pos (by decide)]
  refine wpAny_bind (sliceApplied_to (a := a) (n := items.toArray.size) hs (by rw [List.size_toArray]; omega) ?_)
  have hno : ¬ (((0 : Int) == 0 && (1 : Int) == 1 && a == items.toArray.size) = true) := by
    have : (a == items.toArray.size) = false := by rw [beq_eq_false_iff_ne, List.size_toArray]; omega
    rw [this]; simp
  show wpAny _ _ (if ((0 : Int) == 0 && (1 : Int) == 1 && a == items.toArray.size) = true then _ else _) _ _ s
  rw [if_neg hno, pick_to items a (by omega)]
  first
    | exact wpAny_bind (m := Builtin.Tuple.tupleExact _) (wpAny_newObj_type (wpAny_pure ⟨_, rfl, wpAny_pure h⟩) hdrop)
    | exact wpAny_bind (m := Builtin.Tuple.tupleExact _) (wpAny_newObj_type (wpAny_bind (wpAny_pure (wpAny_pure ⟨_, rfl, wpAny_pure h⟩))) hdrop)
    | exact wpAny_bind (wpAny_bind (m := Builtin.Tuple.tupleExact _) (wpAny_newObj_type (wpAny_pure (wpAny_pure ⟨_, rfl, wpAny_pure h⟩)) hdrop))
    | exact wpAny_bind (wpAny_bind (m := Builtin.Tuple.tupleExact _) (wpAny_newObj_type (wpAny_pure ⟨_, rfl, wpAny_pure h⟩) hdrop))
end

section
variable {c : Cx} {env : Env} {n : Nat} {ρ : Vars}
theorem Ev.sliceFrom {o e : PySem.Expr} {p pos : Pos} {ds : List D} {k : Nat} (ho : Ev c env n ρ o (.tup ds)) (he : Ev c env n ρ e (.int k)) (h1 : 1 ≤ k := by decide) (hk : k ≤ ds.length := by exact Nat.le_of_ble_eq_true rfl) (hz : ds.length ≤ 1000 := by exact Nat.le_of_ble_eq_true rfl)
    (ht : ∀ o' r, letTemporaryGo o o' r = pure () := by intro _ _; rfl) : Ev c env n ρ (.Subscript o (.Slice (some e) Option.none Option.none p) pos) (.tup (ds.drop k)) := by
  intro A s R I S
  refine wpAny_Subscript_Slice slot_tuple_getitem.lookup ?_ ht
  refine (ho A s R I S).use fun v s₁ x r => ?_
  refine wpAny_Slice ?_
  rw [evalPart_some, evalPart_none]
  refine (he A s₁ R x.inv (S.ext x.ext)).use fun u s₂ y r₂ => wpAny_pure (wpAny_pure ?_)
  obtain ⟨t, rfl⟩ := r₂.isInt
  rcases (r.ext y.ext).isTup with ⟨_, _, _, rfl, e, r⟩
  ·
    have hl := r.length
    have st := (x.trans y).trans (.push y.inv { cls := .type "slice", data := .fields #[.int k t, .none, .none] })
    refine ⟨⟨_, Heap.get?_push_of_some _ e, rfl⟩, ?_⟩
    refine getItem_tuple_from (tup_isTuple (Heap.get?_push_of_some _ e)) (.new _ _ _ _) h1 (by rw [List.size_toArray, hl]; exact hk) ⟨st.trans (.push st.inv _), ?_⟩ (by rw [List.size_toArray, hl]; exact Nat.le_trans hz (by decide))
    exact .tup (new_tup (by simp)) (((r.drop k).ext (.push _ _)).ext (.push _ _))
theorem Ev.sliceTo {o e : PySem.Expr} {p pos : Pos} {ds : List D} {k : Nat} (ho : Ev c env n ρ o (.tup ds)) (he : Ev c env n ρ e (.int k)) (hk : k < ds.length := by exact Nat.le_of_ble_eq_true rfl) (hz : ds.length ≤ 1000 := by exact Nat.le_of_ble_eq_true rfl)
    (ht : ∀ o' r, letTemporaryGo o o' r = pure () := by intro _ _; rfl) : Ev c env n ρ (.Subscript o (.Slice Option.none (some e) Option.none p) pos) (.tup (ds.take k)) := by
  intro A s R I S
  refine wpAny_Subscript_Slice slot_tuple_getitem.lookup ?_ ht
  refine (ho A s R I S).use fun v s₁ x r => ?_
  refine wpAny_Slice ?_
  rw [evalPart_some, evalPart_none]
  refine wpAny_pure ((he A s₁ R x.inv (S.ext x.ext)).use fun u s₂ y r₂ => wpAny_pure ?_)
  obtain ⟨t, rfl⟩ := r₂.isInt
  rcases (r.ext y.ext).isTup with ⟨_, _, _, rfl, e, r⟩
  ·
    have hl := r.length
    have st := (x.trans y).trans (.push y.inv { cls := .type "slice", data := .fields #[.none, .int k t, .none] })
    refine ⟨⟨_, Heap.get?_push_of_some _ e, rfl⟩, ?_⟩
    refine getItem_tuple_to (tup_isTuple (Heap.get?_push_of_some _ e)) (.new _ _ _ _) (by rw [hl]; exact hk) ⟨st.trans (.push st.inv _), ?_⟩ (by rw [hl]; exact Nat.le_trans hz (by decide))
    exact .tup (new_tup rfl) (((r.take k).ext (.push _ _)).ext (.push _ _))

/-- every so many of a list of ints -/
def pickI (ns : List Int) (lo st : Int) : List Int := (sliceRange (sliceBounds (some lo) none (some st) ns.length).1 (sliceBounds (some lo) none (some st) ns.length).2.1 (sliceBounds (some lo) none (some st) ns.length).2.2).filterMap (ns[·]?)
theorem IntsAre.pick {vs : List Value} {ns : List Int} (h : IntsAre vs ns) (idx : List Nat) : IntsAre (idx.filterMap (vs.toArray[·]?)) (idx.filterMap (ns[·]?)) := by
  have key : ∀ {vs : List Value} {ns : List Int}, IntsAre vs ns → ∀ j : Nat, (vs[j]? = none ∧ ns[j]? = none) ∨ ∃ k t, vs[j]? = some (.int k t) ∧ ns[j]? = some k := by
    intro vs ns h
    induction h with
    | nil => intro j; exact .inl ⟨rfl, rfl⟩
    | cons k t h ih =>
      intro j
      cases j with
      | zero => exact .inr ⟨k, t, rfl, rfl⟩
      | succ j => simpa using ih j
  induction idx with
  | nil => exact .nil
  | cons i idx ih =>
    rcases key h i with ⟨e1, e2⟩ | ⟨k, t, e1, e2⟩
    · rw [List.filterMap_cons_none (by simpa using e1), List.filterMap_cons_none e2]; exact ih
    · rw [List.filterMap_cons_some (b := .int k t) (by simpa using e1), List.filterMap_cons_some e2]; exact .cons _ _ ih
theorem IntsAre.len {vs : List Value} {ns : List Int} (h : IntsAre vs ns) : vs.length = ns.length := by
  induction h with
  | nil => rfl
  | cons _ _ _ ih => rw [List.length_cons, List.length_cons, ih]
theorem Ev.sliceStep {o e e' : PySem.Expr} {p pos : Pos} {ns : List Int} {k st : Int} (ho : Ev c env n ρ o (.scr ns)) (he : Ev c env n ρ e (.int k)) (he' : Ev c env n ρ e' (.int st)) (h0 : st ≠ 0) (hz : ns.length ≤ 1000)
    (ht : ∀ o' r, letTemporaryGo o o' r = pure () := by intro _ _; rfl) : Ev c env n ρ (.Subscript o (.Slice (some e) Option.none (some e') p) pos) (.scr (pickI ns k st)) := by
  intro A s R I S
  refine wpAny_Subscript_Slice_step slot_list_getitem.lookup ?_ ht
  refine (ho A s R I S).use fun v s₁ x r => ?_
  refine wpAny_Slice ?_
  rw [evalPart_some, evalPart_none, evalPart_some]
  refine (he A s₁ R x.inv (S.ext x.ext)).use fun u s₂ y r₂ => wpAny_pure ?_
  refine (he' A s₂ R y.inv (S.ext (x.trans y).ext)).use fun u' s₃ z r₃ => ?_
  obtain ⟨t, rfl⟩ := r₂.isInt
  obtain ⟨t', rfl⟩ := r₃.isInt
  rcases (r.ext (y.trans z).ext).isScr with ⟨a, vs, rfl, l, i, q⟩
  ·
    have hl := IntsAre.len i
    have st' := ((x.trans y).trans z).trans (.push z.inv { cls := .type "slice", data := .fields #[.int k t, .none, .int st t'] })
    refine ⟨(l.push _).typeIs, ?_⟩
    refine wpAny_getItem_list_slice (l.push _) (.new _ _ _ _) (.int _ _) .none (.int _ _) (by simpa using h0) ⟨st'.trans (.push st'.inv _), ?_⟩ (by rw [List.size_toArray, hl]; exact Nat.le_trans hz (by decide))
    refine .scr (vs := (slicePick vs.toArray (some k) Option.none (some st)).toList) ⟨_, Heap.get?_push_size _ rfl, rfl, 0, by simp⟩ ?_ st'.inv.new
    unfold slicePick pickI
    rw [List.size_toArray, hl]
    exact IntsAre.pick i _
/-- a list gone through from its end -/
theorem Src.rev {x : Str} {p pos : Pos} {arg : PySem.Expr} {ds : List D} (K : EnvOk env) (hk : env.kindOf x = some .globalImplicit) (g : GlobIs c x (.type "reversed")) (h : Ev c env n ρ arg (.lst Option.none ds))
    (he : starEach [arg] env = (false, eval arg env) :: starEach [] env := by rfl) (hp : (backTo pos (starEach [arg] env)).any (·.1) = false := by rfl) (hd : (x == ("__debug__" : Str)) = false := by decide) : Src c env n ρ (.Call (.Name x p) [arg] [] pos) ds.reverse := by
  intro A s R I S
  show wpAny c.M A (do callWith pos (← eval (.Name x p) env) [] (backTo pos (starEach [arg] env)) (backToKw pos (keywordEach [] env))) _ _ s
  refine wpAny_bind (ld_glob K I hk g ?_ hd)
  refine callWith_any (.inr (.inl ⟨_, rfl⟩)) hp (wpAny_mono ((Evs.cons h Evs.nil he) A s pos R I S) (fun vs s₁ y => ⟨y.1.inv, ?_⟩) fun _ _ z => z)
  obtain ⟨v, rfl, rr⟩ := one_of y.2
  rcases rr.isLst with ⟨l, us, k, rfl, e, _, q, r⟩
  ·
    have it : ItAt c.X (s₁.heap.push (revObj l ((us.toArray.size : Int) - 1))) s₁.heap.objs.size ds.reverse := by
      refine .rev (k := us.length) (vs := us) ?_ (Heap.get?_push_of_some _ e) (q rfl) (Nat.le_refl _) ?_
      · rw [List.size_toArray]
        exact ⟨_, Heap.get?_push_size _ rfl, rfl, rfl⟩
      · rw [List.take_of_length_le (Nat.le_refl _)]
        exact (r.ext (.push _ _)).reverse
    refine call_reversed_list (lst_isList e) ⟨y.1.trans (.push y.1.inv _), it.self ⟨_, rfl, y.1.trans (.push y.1.inv _), y.1.ext.none (get?_size _), it⟩⟩
/-- so many times one thing -/
theorem mul_one {A : Around} {E : Value → Shared → Prop} {s : Shared} {l : Addr} {v : Value} {m : Nat} {K : Int} {u : Tok} {Q : Value → Shared → Prop} (hl : s.heap.get? l = some (lstObj [v] m)) (h0 : 0 ≤ K) (hk : K ≤ 1000)
    (h : Q (.ref s.heap.objs.size) { s with heap := s.heap.push { cls := .type "list", data := .seq (List.replicate K.toNat v).toArray } }) : wpAny c.M A (binaryOp .Mult (.ref l) (.int K u)) Q E s := by
  have hh1 : ¬ (!Builtin.List.listFitsIndex K) = true := by simp [Builtin.List.listFitsIndex]; omega
  have hh2 : ¬ [v].toArray.size * K.toNat > (2 ^ 63 - 1) / 8 := by simp; omega
  have hh3 : ¬ Builtin.List.listTooLong ([v].toArray.size * K.toNat) = true := by
    unfold Builtin.List.listTooLong
    have : (2 : Nat) ^ 24 = 16777216 := rfl
    simp [sizeLine]; omega
  have e1 : ∀ k : Nat, List.foldl (fun x1 x2 => x1 ++ x2) (#[] : Array Value) (List.replicate k #[v]) = (List.replicate k v).toArray := by
    intro k
    have : ∀ (k : Nat) (a : List Value), List.foldl (fun x1 x2 => x1 ++ x2) a.toArray (List.replicate k #[v]) = (a ++ List.replicate k v).toArray := by
      intro k
      induction k with
      | zero => intro a; simp
      | succ k ih =>
        intro a
        rw [List.replicate_succ, List.foldl_cons]
        have : a.toArray ++ #[v] = (a ++ [v]).toArray := by simp
        rw [this, ih, List.replicate_succ, List.append_assoc]; rfl
    simpa using this k []
  have e2 : List.foldl (fun x1 x2 => x1 ++ x2) (#[] : Array Value) (List.replicate (if [v].toArray.isEmpty = true then 0 else K.toNat) [v].toArray) = (List.replicate K.toNat v).toArray := by
    have : (if [v].toArray.isEmpty = true then 0 else K.toNat) = K.toNat := by simp
    rw [this]; exact e1 _
  refine wpAny_binaryOp_repeat_ref (T := "list") (U := "int") (by decide) ⟨_, hl, rfl⟩ (fun s' => typeIs_int s' K u) noFill_list_mul F.fills_int_mul F.slot_int_rmul repeat_list F.slot_int_index.lookup ?_
  refine call_meets F.slot_int_rmul (typeIs_int s K u) F.entry_int_rmul (F.args_int_rmul_2 _ _) (int___rmul___int_list K u l [v].toArray m) ⟨hl, rfl, ⟨_, hl, rfl⟩, ?_⟩
  refine call_meets F.slot_list_mul ⟨_, hl, rfl⟩ F.entry_list_mul (F.args_list_mul_2 _ _) (AutoListH.list___mul___list_int_3 l [v].toArray m K u hh1 hh2 hh3) ⟨hl, ?_⟩
  rw [e2]
  exact h
theorem Bin.mulL {t : Option Addr} {d : D} {k : Nat} (hk : k ≤ 1000) : Bin c n .Mult (.lst t [d]) (.int k) (.lst Option.none (List.replicate k d)) := by
  intro A s v₁ v₂ R I r₁ r₂
  obtain ⟨u, rfl⟩ := r₂.isInt
  rcases r₁.isLst with ⟨l, vs, m, rfl, hl, _, _, r⟩
  ·
    obtain ⟨v, rfl, rv⟩ := one_of r
    refine mul_one hl (by omega) (by omega) ⟨.push I _, ?_⟩
    have rk : ∀ k : Nat, Reps c.X s.heap (List.replicate k v) (List.replicate k d) := by
      intro k
      induction k with
      | zero => exact .nil
      | succ k ih => exact .cons rv ih
    exact .lst (new_lst (vs := List.replicate k v) (by simp)) (fun _ q => by cases q) (fun _ => I.new) ((rk k).ext (.push _ _))
end
def upperS (x : Str) : Str := ⟨placed x fun _ c => Unicode.upperOf c⟩
def lowerS (x : Str) : Str := ⟨placed x fun i _ => Unicode.lowerAt x.cps i⟩
section
variable {c : Cx} {n : Nat}
theorem CallTo.upper {x : Str} (h : Builtin.Str.tooLong (upperS x).cps.size = false) : CallTo c n (.builtin "str.upper") [.str x] (.str (upperS x)) := by
  intro A s vs R I r
  obtain ⟨v, rfl, rr⟩ := one_of r
  obtain ⟨t, rfl⟩ := rr.isStr
  exact call_gives F.slot_str_upper (typeIs_str s x t) F.entry_str_upper (F.args_str_upper_1 _) (gives_str_upper x t h) ⟨fit_le h, .tok I _, .str _ _⟩
theorem CallTo.lower {x : Str} (h : Builtin.Str.tooLong (lowerS x).cps.size = false) : CallTo c n (.builtin "str.lower") [.str x] (.str (lowerS x)) := by
  intro A s vs R I r
  obtain ⟨v, rfl, rr⟩ := one_of r
  obtain ⟨t, rfl⟩ := rr.isStr
  exact call_gives F.slot_str_lower (typeIs_str s x t) F.entry_str_lower (F.args_str_lower_1 _) (gives_str_lower x t h) ⟨fit_le h, .tok I _, .str _ _⟩
end

theorem FnOk.of {c : Cx} {f : Addr} {oc : Value} {od : Option Addr} {osl : Array (Option Value)} {fd : FuncData} {b : List Stmt} {cd : Addr} {co : Obj} {vs : Array Value} {t : Tok} (h : c.K.lookup f = some ⟨oc, od, .func fd, osl⟩)
    (hc : fd.code = .ref cd) (hk : c.K.lookup cd = some co) (hd : co.data = .fields vs) (hv : vs[1]? = some (.str fd.qualname t)) (body : fd.body = .stmts b) (clo : fd.closure = []) (glob : fd.globals = mainGlobals) (blt : fd.builtins = builtinsNs)
    (kind : fd.scope.kind = .function) (co' : fd.scope.isCoroutine = false) (gen : fd.scope.isGenerator = false) : FnOk c f fd b :=
  ⟨⟨_, c.KB _ _ h, rfl⟩, ⟨cd, co, vs, t, hc, c.KB _ _ hk, hd, hv⟩, body, clo, glob, blt, kind, co', gen⟩

theorem Ev.cast {c : Cx} {env : Env} {n : Nat} {ρ : Vars} {e : PySem.Expr} {d d' : D} (h : Ev c env n ρ e d) (q : d = d') : Ev c env n ρ e d' := q ▸ h

/-- the two places where a def stands within a def -/
def tab1 : TabSpec := ⟨61, ⟨56, 4, 65, 28⟩, "_int2digits.<locals>.inner"⟩
def tab2 : TabSpec := ⟨68, ⟨71, 4, 76, 55⟩, "_digits2int.<locals>.inner"⟩
structure Good (c : Cx) : Prop where
  K : c.K = Mine.hd.heap_39 c.w.params
  bm : ∃ bm ob, c.mg "__builtins__" = some (.ref bm) ∧ bm ≠ builtinsNs ∧ c.B.get? bm = some ob ∧ ob.cls = .type "module" ∧ ob.dict = some builtinsNs ∧ ob.data = .plain
  h1 : CodeHd c.B 65 61
  h2 : CodeHd c.B 72 68
  n1 : c.B.get? 61 = none
  n2 : c.B.get? 68 = none
  tabs : c.tabs = [tab1, tab2]
theorem Good.own {c : Cx} (G : Good c) {a : Addr} : Good (c.own a) := ⟨G.K, G.bm, G.h1, G.h2, G.n1, G.n2, G.tabs⟩

theorem glob_of {c : Cx} {x : Str} {v : Value} (G : Good c) (h : nsIn (Mine.hd.heap_39 c.w.params) mainGlobals x = some (some v)) : GlobIs c x v := .inl (mg_of c.KB c.GB (by rw [G.K]; exact h))
theorem blt_of {c : Cx} {x : Str} {v : Value} (G : Good c) (h : nsIn (Mine.hd.heap_39 c.w.params) mainGlobals x = some none) (hb : bootBuiltins x = some v) (hx : x ≠ "__name__" := by decide) : GlobIs c x v :=
  .inr ⟨ns_none_of c.KB c.GB (by rw [G.K]; exact h), by rw [c.blt x hx]; exact hb⟩

theorem callee_of {c : Cx} {a : Addr} {oc : Value} {od : Option Addr} {osl : Array (Option Value)} {fd : FuncData} (G : Good c) (h : (Mine.hd.heap_39 c.w.params).lookup a = some ⟨oc, od, .func fd, osl⟩) : Callee c (.ref a) :=
  .inr (.inr ⟨a, _, fd, rfl, c.KB a _ (by rw [G.K]; exact h), rfl⟩)

theorem g_max {c : Cx} (G : Good c) : GlobIs c "max" (.builtin "max") := blt_of G rfl rfl
theorem g_min {c : Cx} (G : Good c) : GlobIs c "min" (.builtin "min") := blt_of G rfl rfl
theorem g_round {c : Cx} (G : Good c) : GlobIs c "round" (.builtin "round") := blt_of G rfl rfl
theorem g_range {c : Cx} (G : Good c) : GlobIs c "range" (.type "range") := blt_of G rfl rfl
theorem g_len {c : Cx} (G : Good c) : GlobIs c "len" (.builtin "len") := blt_of G rfl rfl
theorem g_sum {c : Cx} (G : Good c) : GlobIs c "sum" (.builtin "sum") := blt_of G rfl rfl
theorem g_str {c : Cx} (G : Good c) : GlobIs c "str" (.type "str") := blt_of G rfl rfl
theorem g_int {c : Cx} (G : Good c) : GlobIs c "int" (.type "int") := blt_of G rfl rfl
theorem g_divmod {c : Cx} (G : Good c) : GlobIs c "divmod" (.builtin "divmod") := blt_of G rfl rfl
theorem g_reversed {c : Cx} (G : Good c) : GlobIs c "reversed" (.type "reversed") := blt_of G rfl rfl
theorem g_type {c : Cx} (G : Good c) : GlobIs c "type" (.type "type") := blt_of G rfl rfl
theorem g_list {c : Cx} (G : Good c) : GlobIs c "list" (.type "list") := blt_of G rfl rfl
theorem g_hsv {c : Cx} (G : Good c) : GlobIs c "rgb_to_hsv" (.ref 45) := glob_of G rfl
theorem g_div2 {c : Cx} (G : Good c) : GlobIs c "_div2n1n" (.ref 52) := glob_of G rfl
theorem g_i2d {c : Cx} (G : Good c) : GlobIs c "_int2digits" (.ref 66) := glob_of G rfl
theorem g_d2i {c : Cx} (G : Good c) : GlobIs c "_digits2int" (.ref 73) := glob_of G rfl
theorem g_dmp {c : Cx} (G : Good c) : GlobIs c "_divmod_pos" (.ref 80) := glob_of G rfl
theorem g_idm {c : Cx} (G : Good c) : GlobIs c "int_divmod" (.ref 87) := glob_of G rfl
theorem g_lim {c : Cx} (G : Good c) : ∃ t, GlobIs c "_DIV_LIMIT" (.int 4000 t) := ⟨_, glob_of G rfl⟩
theorem g_hdr {c : Cx} (G : Good c) : GlobIs c "Headers" (.ref 218) := glob_of G rfl
theorem g_sizes {c : Cx} (G : Good c) : ∃ a, GlobIs c "_law_sizes" (.ref a) ∧ a = 229 := ⟨_, glob_of G rfl, rfl⟩
theorem g_letter {c : Cx} (G : Good c) : ∃ a, GlobIs c "_law_letter" (.ref a) ∧ a = 234 := ⟨_, glob_of G rfl, rfl⟩
theorem g_parted {c : Cx} (G : Good c) : ∃ a, GlobIs c "_law_parted" (.ref a) ∧ a = 241 := ⟨_, glob_of G rfl, rfl⟩
theorem g_nre {c : Cx} (G : Good c) : GlobIs c "_name_disallowed_re" (.ref 92) := glob_of G rfl
theorem g_vre {c : Cx} (G : Good c) : GlobIs c "_value_disallowed_re" (.ref 97) := glob_of G rfl

theorem Tru.cast {c : Cx} {env : Env} {n : Nat} {ρ : Vars} {e : PySem.Expr} {b b' : Bool} (h : Tru c env n ρ e b) (q : b = b') : Tru c env n ρ e b' := q ▸ h
theorem Ev.itm {c : Cx} {env : Env} {n : Nat} {ρ : Vars} {o i : PySem.Expr} {pos : Pos} {d₀ di d : D} (ho : Ev c env n ρ o d₀) (hi : Ev c env n ρ i di) (g : Getter d₀) (h : Itm c n d₀ di d)
    (hs : ∀ v u, subscripted i false v u = operate [v, u] (getItem v u) := by intro _ _; rfl) : Ev c env n ρ (.Subscript o i pos) d := Ev.item g ho hi h hs
theorem NmOk.cell {c : Cx} {env : Env} {s₀ : Shared} {x : Str} {a : Addr} (FF : FnEnv c env s₀) (h : env.kindOf x = some .cell) (ha : env.cells.lookup x = some a) (hx : x ≠ "_headers" := by decide) : NmOk env s₀ x := NmOk.cel (FF.cel x a ha) h ha hx
section
variable {α β : Type} {c : Cx} {n : Nat} {elt iter cnd iter' : PySem.Expr} {scope : Scope} {cl : List (Str × Addr)} {env : Env} {ρ : Vars} {x x' : Str} {p p' pos : Pos}
theorem CRun.one (xs : List α) (g f : α → D) (hk : ∀ L, (compEnvC scope cl L env).kindOf x = some .local) (hx : x ≠ "_headers") (hρ : ρ.lookup x = none) (hl : xs.length ≤ 1000) (hg : ∀ y ∈ xs, (g y).plain = true) (hf : ∀ y ∈ xs, (f y).plain = true)
    (turn : ∀ acc L s₀, Frm (c.own acc) (compEnvC scope cl L env) s₀ → ∀ y ∈ xs, Ev (c.own acc) (compEnvC scope cl L env) n ((x, g y) :: ρ) elt (f y)) :
    CRun c n (.ListComp elt [⟨.Name x p, iter, [], 0⟩] scope pos) scope cl env ρ (xs.map g) (xs.map f) := by
  intro acc L a A s₀ s sR F ha R C it vo haR fr
  have e : xs.flatMap (fun y => [f y]) = xs.map f := flatMap_one f xs
  have := cloop (c := c) (t := do let _ ← call (.builtin "list.append") [.ref acc, ← eval elt (compEnvC scope cl L env)]) (elt := elt) (gens := [⟨.Name x p, iter, [], 0⟩]) (scope := scope) (pos := pos) (k := 0) xs g (fun y => [f y]) F ha turn_one (fun y hy => ?_) hg (fun y hy => by simp [D.plains, hf y hy]) R C it (by rw [e]; simpa using hl) (by simp [D.plains]) haR fr
  · rw [e] at this
    exact this
  · exact ⟨_, Tgt.name F ⟨.inl (hk L), hx⟩, sub_cons hρ, vo.cons (D.plain_off _ _ (hg y hy)), CBody.emit F (turn acc L s₀ F y hy) (hf y hy) (vo.cons (D.plain_off _ _ (hg y hy)))⟩
theorem filter_flat (b : α → Bool) (f : α → D) : ∀ xs : List α, xs.flatMap (fun y => if b y then [f y] else []) = (xs.filter b).map f
  | [] => rfl
  | y :: ys => by
    rw [List.flatMap_cons, filter_flat b f ys, List.filter_cons]
    cases b y <;> rfl
theorem CRun.cond (xs : List α) (g f : α → D) (b : α → Bool) (hk : ∀ L, (compEnvC scope cl L env).kindOf x = some .local) (hx : x ≠ "_headers") (hρ : ρ.lookup x = none) (hl : xs.length ≤ 1000) (hg : ∀ y ∈ xs, (g y).plain = true) (hf : ∀ y ∈ xs, (f y).plain = true)
    (test : ∀ acc L s₀, Frm (c.own acc) (compEnvC scope cl L env) s₀ → ∀ y ∈ xs, Tru (c.own acc) (compEnvC scope cl L env) n ((x, g y) :: ρ) cnd (b y))
    (turn : ∀ acc L s₀, Frm (c.own acc) (compEnvC scope cl L env) s₀ → ∀ y ∈ xs, b y = true → Ev (c.own acc) (compEnvC scope cl L env) n ((x, g y) :: ρ) elt (f y)) :
    CRun c n (.ListComp elt [⟨.Name x p, iter, [cnd], 0⟩] scope pos) scope cl env ρ (xs.map g) ((xs.filter b).map f) := by
  intro acc L a A s₀ s sR F ha R C it vo haR fr
  have e := filter_flat b f xs
  have hl' : (xs.flatMap (fun y => if b y then [f y] else [])).length ≤ 1000 := by
    rw [e, List.length_map]; exact Nat.le_trans (List.length_filter_le _ _) hl
  have := cloop (c := c) (elt := elt) (gens := [⟨.Name x p, iter, [cnd], 0⟩]) (scope := scope) (pos := pos) (k := 0) xs g (fun y => if b y then [f y] else []) F ha turn_if (fun y hy => ?_) hg (fun y hy => by cases b y <;> simp [D.plains, hf y hy]) R C it (by simpa using hl') (by simp [D.plains]) haR fr
  · rw [e] at this
    exact this
  · exact ⟨_, Tgt.name F ⟨.inl (hk L), hx⟩, sub_cons hρ, vo.cons (D.plain_off _ _ (hg y hy)), CBody.ifs F (test acc L s₀ F y hy) (turn acc L s₀ F y hy) (hf y hy) (vo.cons (D.plain_off _ _ (hg y hy)))⟩
theorem CRun.two (xs : List α) (g : α → D) (ys : α → List β) (g' : β → D) (f : α → β → D) (hk : ∀ L, (compEnvC scope cl L env).kindOf x = some .local) (hx : x ≠ "_headers") (hρ : ρ.lookup x = none)
    (hk' : ∀ L, (compEnvC scope cl L env).kindOf x' = some .local) (hx' : x' ≠ "_headers") (hρ' : ∀ d, ((x, d) :: ρ).lookup x' = none)
    (hl : (xs.flatMap fun y => (ys y).map (f y)).length ≤ 1000) (hg : ∀ y ∈ xs, (g y).plain = true) (hg' : ∀ y ∈ xs, ∀ z ∈ ys y, (g' z).plain = true) (hf : ∀ y ∈ xs, ∀ z ∈ ys y, (f y z).plain = true)
    (src : ∀ acc L s₀, Frm (c.own acc) (compEnvC scope cl L env) s₀ → ∀ y ∈ xs, Src (c.own acc) (compEnvC scope cl L env) n ((x, g y) :: ρ) iter' ((ys y).map g'))
    (turn : ∀ acc L s₀, Frm (c.own acc) (compEnvC scope cl L env) s₀ → ∀ y ∈ xs, ∀ z ∈ ys y, Ev (c.own acc) (compEnvC scope cl L env) n ((x', g' z) :: (x, g y) :: ρ) elt (f y z))
    (hfs : ∀ L v, foldedSetIterable iter' (compEnvC scope cl L env) v = pure v := by intro _ _; rfl) :
    CRun c n (.ListComp elt [⟨.Name x p, iter, [], 0⟩, ⟨.Name x' p', iter', [], 0⟩] scope pos) scope cl env ρ (xs.map g) (xs.flatMap fun y => (ys y).map (f y)) := by
  intro acc L a A s₀ s sR F ha R C it vo haR fr
  refine cloop (c := c) (elt := elt) (gens := [⟨.Name x p, iter, [], 0⟩, ⟨.Name x' p', iter', [], 0⟩]) (scope := scope) (pos := pos) (k := 0) xs g (fun y => (ys y).map (f y)) F ha turn_outer (fun y hy => ?_) hg (fun y hy => plains_map (hf y hy)) R C it (by simpa using hl) (by simp [D.plains]) haR fr
  have v1 := vo.cons (x := x) (D.plain_off acc _ (hg y hy))
  refine ⟨_, Tgt.name F ⟨.inl (hk L), hx⟩, sub_cons hρ, v1, CBody.inner (ys y) g' (f y) F (src acc L s₀ F y hy) (hg' y hy) (hf y hy) (fun z hz => ?_) (hfs L)⟩
  exact ⟨_, Tgt.name F ⟨.inl (hk' L), hx'⟩, sub_cons (hρ' _), v1.cons (D.plain_off _ _ (hg' y hy z hz)), turn acc L s₀ F y hy z hz⟩
end

/-! ## Lists that the code itself fills -/
mutual
def D.flat : D → Bool
  | .tup l => D.flats l
  | .lst _ _ => false
  | .scr _ => false
  | .hdr _ => false
  | _ => true
def D.flats : List D → Bool
  | [] => true
  | d :: ds => d.flat && D.flats ds
end
mutual
theorem Rep.flat {X Y : List Addr} {h : Heap} : ∀ {v d}, Rep X h v d → d.flat = true → Rep Y h v d
  | _, _, .none, _ => .none
  | _, _, .bool b, _ => .bool b
  | _, _, .int i t, _ => .int i t
  | _, _, .flt y t ht, _ => .flt y t ht
  | _, _, .str y t, _ => .str y t
  | _, _, .tup e r, z => .tup e (r.flat (by rw [D.flat] at z; exact z))
  | _, _, .lst e t q r, z => by simp [D.flat] at z
  | _, _, .scr l i q, z => by simp [D.flat] at z
  | _, _, .hdr e1 e2 e3 e4 e5 q p, z => by simp [D.flat] at z
  | _, _, .rng e, _ => .rng e
  | _, _, .ref a, _ => .ref a
  | _, _, .fn e1 e2 e3 e4 e5 e6, _ => .fn e1 e2 e3 e4 e5 e6
theorem Reps.flat {X Y : List Addr} {h : Heap} : ∀ {vs ds}, Reps X h vs ds → D.flats ds = true → Reps Y h vs ds
  | _, _, .nil, _ => .nil
  | _, _, .cons a r, z => by rw [D.flats, Bool.and_eq_true] at z; exact .cons (a.flat z.1) (r.flat z.2)
end
mutual
theorem D.flat_plain : ∀ d : D, d.flat = true → d.plain = true
  | .none, _ => by simp [D.plain]
  | .bool _, _ => by simp [D.plain]
  | .int _, _ => by simp [D.plain]
  | .flt _, _ => by simp [D.plain]
  | .str _, _ => by simp [D.plain]
  | .tup l, h => by rw [D.plain]; exact D.flats_plains l (by rw [D.flat] at h; exact h)
  | .lst _ _, h => by simp [D.flat] at h
  | .scr _, h => by simp [D.flat] at h
  | .hdr _, h => by simp [D.flat] at h
  | .rng _ _, _ => by simp [D.plain]
  | .ref _, _ => by simp [D.plain]
  | .fn _, _ => by simp [D.plain]
theorem D.flats_plains : ∀ l : List D, D.flats l = true → D.plains l = true
  | [], _ => by simp [D.plains]
  | d :: ds, h => by
    rw [D.flats, Bool.and_eq_true] at h
    rw [D.plains, D.flat_plain d h.1, D.flats_plains ds h.2]; rfl
end

theorem St.more {X : List Addr} {env : Env} {ρ : Vars} {h : Heap} {b : Addr} (S : St X env ρ h) (x : h.get? b = none) : St (b :: X) env ρ h := by
  obtain ⟨⟨m, hn, hm, hl⟩, hc, ho, hk⟩ := S
  refine ⟨⟨m, hn, hm, fun y d e k => ?_⟩, fun y d e k => ?_, ho, hk⟩
  · obtain ⟨v, h1, h2⟩ := hl y d e k
    exact ⟨v, h1, h2.more x⟩
  · obtain ⟨a, v, h1, h2, h3⟩ := hc y d e k
    exact ⟨a, v, h1, h2, h3.more x⟩
theorem St.fewer {X Y : List Addr} {env : Env} {ρ : Vars} {h : Heap} (S : St X env ρ h) (x : ∀ a ∈ Y, a ∈ X) : St Y env ρ h := by
  obtain ⟨⟨m, hn, hm, hl⟩, hc, ho, hk⟩ := S
  refine ⟨⟨m, hn, hm, fun y d e k => ?_⟩, fun y d e k => ?_, ho, hk⟩
  · obtain ⟨v, h1, h2⟩ := hl y d e k
    exact ⟨v, h1, h2.fewer x⟩
  · obtain ⟨a, v, h1, h2, h3⟩ := hc y d e k
    exact ⟨a, v, h1, h2, h3.fewer x⟩
theorem St.off {X : List Addr} {env : Env} {ρ : Vars} {h : Heap} {b : Addr} (S : St X env ρ h) (x : h.get? b = none) : VOff b ρ := by
  intro y d e
  rcases S.kinds y d e with k | k
  · obtain ⟨m, hn, hm, hl⟩ := S.loc
    obtain ⟨v, h1, h2⟩ := hl y d e k
    exact h2.off x
  · obtain ⟨a, v, h1, h2, h3⟩ := S.cel y d e k
    exact h3.off x

/-- an expression that makes a new list -/
def EvF (c : Cx) (env : Env) (n : Nat) (ρ : Vars) (e : PySem.Expr) (ds : List D) : Prop :=
  ∀ A s, Room A n → Inv c s.heap s.toks → St c.X env ρ s.heap → wpAny c.M A (eval e env) (fun v s' => ∃ a vs k, v = .ref a ∧ s.heap.get? a = none ∧ Stp c s s' ∧ s'.heap.get? a = some (lstObj vs k) ∧ Reps c.X s'.heap vs ds) Never s
theorem EvF.list {c : Cx} {env : Env} {n : Nat} {ρ : Vars} {es : List PySem.Expr} {ds : List D} {pos : Pos} (hs : Evs c env n ρ es ds) (hz : ds.length ≤ 1000 := by exact Nat.le_of_ble_eq_true rfl) : EvF c env n ρ (.List es pos) ds := by
  intro A s R I S
  refine wpAny_List (wpAny_mono (hs A s pos R I S) (fun vs s₁ x => ⟨?_, ?_⟩) fun _ _ z => z)
  · rw [x.2.length]; exact Nat.le_trans hz (by decide)
  · exact ⟨_, vs, 0, rfl, x.1.ext.none (get?_size _), x.1.trans (.push x.1.inv _), Heap.get?_push_size _ rfl, x.2.ext (.push _ _)⟩

theorem Frm.own {c : Cx} {env : Env} {s₀ : Shared} (F : Frm c env s₀) {a : Addr} : Frm (c.own a) env s₀ := ⟨F.toEnvOk, F.loc, F.base, F.apart⟩
theorem FnEnv.own {c : Cx} {env : Env} {s₀ : Shared} (F : FnEnv c env s₀) {a : Addr} : FnEnv (c.own a) env s₀ := ⟨F.toFrm.own, F.cel⟩

/-- «x = [..]», and the list is the code's own from here on -/
theorem Ex.own {c : Cx} {env : Env} {s₀ : Shared} {n : Nat} {ρ : Vars} {x : Str} {p pos : Pos} {e : PySem.Expr} {ds : List D} {rest : List Stmt} {P : Flow → Shared → Prop} (F : Frm c env s₀) (k : NmOk env s₀ x) (h : EvF c env n ρ e ds) (hfl : D.flats ds = true)
    (hr : ∀ a, s₀.heap.get? a = none → a ∉ c.X → Ex (c.own a) env s₀ n ((x, .lst (some a) ds) :: ρ) rest P) (hs : swapsWith e (some (.Name x p)) pos.line env = pure false := by rfl) : Ex c env s₀ n ρ (.Assign [.Name x p] e pos :: rest) P := by
  intro A s R S
  refine wpAny_execs_cons (wpAny_Assign_Name (wpAny_mono (h A s R S.inv S.st) (fun v s₁ q => ?_) fun _ _ z => z.elim) hs)
  obtain ⟨a, vs, m, rfl, ha, st, hl, rs⟩ := q
  have haX : a ∉ c.X := fun hx => by obtain ⟨_, _, e⟩ := S.inv.av a hx; rw [ha] at e; cases e
  have S₁ : Sta (c.own a) env s₀ ρ s₁ := ⟨⟨st.inv.pos, st.inv.base, st.inv.tabs, fun y hy => by
    rcases List.mem_cons.mp hy with rfl | hy
    · exact ⟨_, _, hl⟩
    · exact st.inv.av y hy⟩, S.ext.trans st.ext, (S.st.more ha).ext st.ext, by rw [st.sh, S.sh]⟩
  have r : Rep (a :: c.X) s₁.heap (.ref a) (.lst (some a) ds) := .lst hl (fun _ q => by cases q; rfl) (fun q => by cases q) (rs.flat hfl)
  refine wpAny_mono (store_name (c := c.own a) F.own S₁ r k.1 k.2) (fun _ s₂ S₂ => wpAny_mono (hr a (S.ext.none ha) haX A s₂ R S₂.2) (fun _ _ q => ⟨?_, q.2⟩) fun _ _ z => z) fun _ _ z => z.elim
  intro b o e t w
  refine q.1 b o (S₂.1.fram (c := c) b o (st.ext.keep b o e t) t w) t fun w' => w ?_
  rcases w' with w' | w' | w'
  · exact .inl w'
  · exact .inr (.inl w')
  · rcases List.mem_cons.mp w' with rfl | w'
    · rw [ha] at e; cases e
    · exact .inr (.inr w')

/-- and it is an ordinary list again -/
theorem Ex.disown {c : Cx} {env : Env} {s₀ : Shared} {n : Nat} {ρ ρ' : Vars} {x : Str} {a : Addr} {ds : List D} {b : List Stmt} {P : Flow → Shared → Prop} (haX : a ∉ c.X) (hx : ρ.lookup x = some (.lst (some a) ds)) (sub : ∀ y d, ρ'.lookup y = some d → ρ.lookup y = some d)
    (h : Ex c env s₀ n ((x, .lst Option.none ds) :: ρ') b P) : Ex (c.own a) env s₀ n ρ b P := by
  intro A s R S
  have inv : Inv c s.heap s.toks := ⟨S.inv.pos, S.inv.base, S.inv.tabs, fun y hy => S.inv.av y (List.mem_cons_of_mem _ hy)⟩
  have st' : St c.X env ρ s.heap := St.fewer (X := a :: c.X) S.st (fun y hy => List.mem_cons_of_mem _ hy)
  have retag : ∀ {v}, Rep c.X s.heap v (.lst (some a) ds) → Rep c.X s.heap v (.lst Option.none ds) := by
    intro v r
    cases r with
    | lst e t _ r => have := t a rfl; subst this; exact .lst e (fun _ q => by cases q) (fun _ => haX) r
  have look : ∀ y d, ((x, D.lst Option.none ds) :: ρ').lookup y = some d → (y = x ∧ d = .lst Option.none ds) ∨ ρ.lookup y = some d := by
    intro y d e
    rw [List.lookup_cons] at e
    cases q : y == x with
    | true => rw [q] at e; cases e; exact .inl ⟨eq_of_beq q, rfl⟩
    | false => rw [q] at e; exact .inr (sub y d e)
  have st : St c.X env ((x, .lst Option.none ds) :: ρ') s.heap := by
    obtain ⟨⟨m, hn, hm, hl⟩, hc, ho, hk⟩ := st'
    refine ⟨⟨m, hn, hm, fun y d e k => ?_⟩, fun y d e k => ?_, ho, fun y d e => ?_⟩
    · rcases look y d e with ⟨rfl, rfl⟩ | e'
      · obtain ⟨v, h1, h2⟩ := hl y _ hx k
        exact ⟨v, h1, retag h2⟩
      · exact hl y d e' k
    · rcases look y d e with ⟨rfl, rfl⟩ | e'
      · obtain ⟨b, v, h1, h2, h3⟩ := hc y _ hx k
        exact ⟨b, v, h1, h2, retag h3⟩
      · exact hc y d e' k
    · rcases look y d e with ⟨rfl, rfl⟩ | e'
      · exact hk y _ hx
      · exact hk y d e'
  refine wpAny_mono (h A s R ⟨inv, S.ext, st, S.sh⟩) (fun _ _ q => ⟨fun b o e t w => q.1 b o e t fun w' => w ?_, q.2⟩) fun _ _ z => z
  rcases w' with w' | w' | w'
  · exact .inl w'
  · exact .inr (.inl w')
  · exact .inr (.inr (List.mem_cons_of_mem _ w'))

theorem m_append : MethOk "list" "append" "list.append" := ⟨F.plainAttrs_list, F.slot_list_append, F.type_list_append⟩
theorem m_reverse : MethOk "list" "reverse" "list.reverse" := ⟨F.plainAttrs_list, F.slot_list_reverse, F.type_list_reverse⟩

/-- the own list is written: the state behind it -/
theorem Sta.write {c : Cx} {env : Env} {s₀ s : Shared} {ρ ρ' : Vars} {x : Str} {a : Addr} {ds ds' : List D} {vs vs' : List Value} {m m' : Nat} {h' : Heap} (F : Frm c env s₀) (ha0 : s₀.heap.get? a = none) (S : Sta (c.own a) env s₀ ρ s) (hk : env.kindOf x = some .local) (hx : ρ.lookup x = some (.lst (some a) ds))
    (sub : ∀ y d, ρ'.lookup y = some d → ρ.lookup y = some d) (vo : VOff a ρ') (e : s.heap.get? a = some (lstObj vs m)) (e' : h'.get? a = some (lstObj vs' m')) (hs : Heap.SameBut a s.heap h') (rs : Reps (a :: c.X) h' vs' ds') :
    Sta (c.own a) env s₀ ((x, .lst (some a) ds') :: ρ') { s with heap := h' } := by
  have hX : a ∈ (c.own a).X := List.mem_cons_self
  have S' := (S.st.less sub).put e hX hs.extBut vo
  obtain ⟨m₀, hn₀, hm₀, hl₀⟩ := S.st.loc
  obtain ⟨v, hv, rv⟩ := hl₀ x _ hx hk
  have hva : v = .ref a := by cases rv with | lst _ t _ _ => rw [t a rfl]
  subst hva
  refine ⟨S.inv.chg hs.extBut (F.base _ ha0) (fun o q => by rw [e] at q; cases q; rfl) fun _ => ⟨_, _, e'⟩, ext_same S.ext ha0 hs.extBut, ?_, by rw [S.sh]⟩
  have look : ∀ y d, ((x, D.lst (some a) ds') :: ρ').lookup y = some d → (y = x ∧ d = .lst (some a) ds') ∨ ρ'.lookup y = some d := by
    intro y d e
    rw [List.lookup_cons] at e
    cases q : y == x with
    | true => rw [q] at e; cases e; exact .inl ⟨eq_of_beq q, rfl⟩
    | false => rw [q] at e; exact .inr e
  obtain ⟨⟨m1, hn, hm, hl⟩, hc, ho, hk'⟩ := S'
  have hne : a ≠ env.locals := by
    rintro rfl
    obtain ⟨o, es, ep, e1, e2, _⟩ := hn₀
    rw [e] at e1; cases e1; cases e2
  have hn' := hn₀.extBut hs.extBut (Ne.symm hne)
  have em : m1 = m₀ := by
    obtain ⟨o, es, ep, e1, e2, _, e3⟩ := hn
    obtain ⟨o', es', ep', f1, f2, _, f3⟩ := hn'
    rw [e1] at f1; cases f1
    rw [e2] at f2; cases f2
    funext y; rw [← e3, ← f3]
  subst em
  refine ⟨⟨m1, hn, hm, fun y d q k => ?_⟩, fun y d q k => ?_, ho, fun y d q => ?_⟩
  · rcases look y d q with ⟨rfl, rfl⟩ | q'
    · exact ⟨_, hv, .lst e' (fun _ q => by cases q; rfl) (fun q => by cases q) rs⟩
    · exact hl y d q' k
  · rcases look y d q with ⟨rfl, rfl⟩ | q'
    · rw [hk] at k; rcases k with k | k <;> cases k
    · exact hc y d q' k
  · rcases look y d q with ⟨rfl, rfl⟩ | q'
    · exact .inl hk
    · exact hk' y d q'

/-- «x.append(..)» -/
theorem Ex.append {c : Cx} {env : Env} {s₀ : Shared} {n : Nat} {ρ ρ' : Vars} {x : Str} {p apos cpos pos : Pos} {arg : PySem.Expr} {a : Addr} {ds : List D} {d : D} {rest : List Stmt} {P : Flow → Shared → Prop} (F : Frm c env s₀) (ha0 : s₀.heap.get? a = none) (hx : ρ.lookup x = some (.lst (some a) ds))
    (h : Ev (c.own a) env n ρ arg d) (hd : d.plain = true) (hds : D.plains ds = true) (hl : ds.length ≤ 900) (sub : ∀ y d, ρ'.lookup y = some d → ρ.lookup y = some d) (vo : VOff a ρ')
    (hr : Ex (c.own a) env s₀ n ((x, .lst (some a) (ds ++ [d])) :: ρ') rest P) (hk : env.kindOf x = some .local := by rfl)
    (hi : interactive env = false := by rfl) (hs : swapsWith (.Call (.Attribute (.Name x p) "append" apos) [arg] [] cpos) Option.none pos.line env = pure false := by rfl)
    (he : starEach [arg] env = (false, eval arg env) :: starEach [] env := by rfl)
    (hp : (backTo cpos (starEach [arg] env)).any (·.1) = false := by rfl)
    (hbase : attributeBase (.Name x p) "append" env (eval (.Name x p) env) = eval (.Name x p) env := by rfl)
    (hfew : ((backTo cpos (starEach [arg] env)).all (fun x => !x.1) && (backToKw cpos (keywordEach [] env)).all (fun x => x.1.isSome)
      && decide ([arg].length + ([] : List Keyword).length + (if ([] : List Keyword).isEmpty then 0 else 1) < 30)) = true := by rfl)
    (hline : (apos.endLine == cpos.line) = true := by rfl) (hdb : (x == ("__debug__" : Str)) = false := by decide) (hcd : (x == ("__classdict__" : Str)) = false := by decide) :
    Ex (c.own a) env s₀ n ρ (.Expr (.Call (.Attribute (.Name x p) "append" apos) [arg] [] cpos) pos :: rest) P := by
  intro A s R S
  refine wpAny_execs_cons (wpAny_Expr ?_ hi hs)
  have ho : Ev (c.own a) env n ρ (.Name x p) (.lst (some a) ds) := Ev.name F.toEnvOk hx hdb hcd
  refine wpAny_Call_method_late hbase hfew hline rfl (Gives.use (c := c.own a) (ho A s R S.inv S.st) fun v s₁ y r => ?_)
  obtain ⟨k1, k2⟩ := KindIs.lst (c.own a).X s₁ v r
  refine ⟨_, _, m_append.pa, m_append.slot, m_append.ty, k1, k2, ?_⟩
  refine Calls.callWith_builtin hp (evalArgs_all hp (wpAny_mono ((Evs.cons h Evs.nil he) A s₁ cpos R y.inv (S.st.ext y.ext)) (fun vs s₂ z => ?_) fun _ _ z => z.elim))
  obtain ⟨u, rfl, ru⟩ := one_of z.2
  rcases (r.ext z.1.ext).isLst with ⟨a', vs, m, rfl, e, t, _, rs⟩
  ·
    have := t a rfl
    subst this
    refine append_exact e (by rw [rs.length]; omega) fun h' e' hs' => ?_
    have hX : a ∈ (c.own a).X := List.mem_cons_self
    have S₂ := (S.step y).step z.1
    have S₃ := Sta.write F ha0 S₂ hk hx sub vo e e' hs' ((rs.put e hX hs'.extBut (D.plains_off a ds hds)).snoc (ru.put e hX hs'.extBut (D.plain_off a d hd)))
    refine wpAny_mono (hr A _ R S₃) (fun _ _ q => ⟨Fram.trans (Fram.trans (.of_ext (y.trans z.1).ext) (.of_but hs'.extBut (.inr (.inr hX)))) q.1, q.2⟩) fun _ _ z => z

/-! ## A def within a def -/
structure DefAt (c : Cx) (t : TabSpec) (cd : Addr) : Prop where
  mem : t ∈ c.tabs
  uniq : ∀ t' ∈ c.tabs, t'.P = t.P → t' = t
  hd : CodeHd c.B cd t.P
  gone : c.B.get? t.P = none
  bm : ∃ bm ob, c.mg "__builtins__" = some (.ref bm) ∧ bm ≠ builtinsNs ∧ c.B.get? bm = some ob ∧ ob.cls = .type "module" ∧ ob.dict = some builtinsNs ∧ ob.data = .plain

theorem def1 {c : Cx} (G : Good c) : DefAt c tab1 65 := ⟨by rw [G.tabs]; simp, fun t ht h => by
  rw [G.tabs] at ht
  simp only [List.mem_cons, List.not_mem_nil, or_false] at ht
  rcases ht with rfl | rfl
  · rfl
  · exact absurd h (by decide), G.h1, G.n1, G.bm⟩
theorem def2 {c : Cx} (G : Good c) : DefAt c tab2 72 := ⟨by rw [G.tabs]; simp, fun t ht h => by
  rw [G.tabs] at ht
  simp only [List.mem_cons, List.not_mem_nil, or_false] at ht
  rcases ht with rfl | rfl
  · exact absurd h (by decide)
  · rfl, G.h2, G.n2, G.bm⟩

/-- what a def makes -/
structure Made (name : Str) (qual : Str) (params : Arguments) (body : List Stmt) (scope : Scope) (clos : List (Str × Addr)) (fd : FuncData) : Prop where
  is : ∃ doc pm cdv ctv, fd = fnX name qual params body scope clos .none .none doc pm none cdv ctv

theorem make_fn {c : Cx} {A : Around} {s : Shared} {t : TabSpec} {cd : Addr} {name : Str} {params : Arguments} {body : List Stmt} {scope : Scope} {env : Env} {clos : List (Str × Addr)} {firstLine : Nat} (D0 : DefAt c t cd) (I : Inv c s.heap s.toks)
    (hcl : closureFor scope env = pure clos) (hg : env.globals = mainGlobals) (hcode : env.code = .ref cd) :
    wpAny c.M A (makeFunction name t.q params (.stmts body) scope env [] [] [] t.pos firstLine) (fun v s' => ∃ fd, Made name t.q params body scope clos fd ∧ Stp c s s' ∧ Rep c.X s'.heap v (.fn fd)) Never s := by
  obtain ⟨bm, ob, b1, b2, b3, b4, b5, b6⟩ := D0.bm
  have hgs := I.ns c.GB
  obtain ⟨ps, hP, hps⟩ := I.tabs t D0.mem
  have hb3 := I.base _ _ b3
  have hgP : mainGlobals ≠ t.P := fun q => by
    obtain ⟨o, es, ep, e, hd, _⟩ := hgs
    rw [q, hP] at e; cases e; cases hd
  have hbP : bm ≠ t.P := fun q => by rw [q, hP] at hb3; cases hb3; cases b4
  have hbG : bm ≠ mainGlobals := fun q => by
    obtain ⟨o, es, ep, e, hd, _⟩ := c.GB
    rw [q, e] at b3; cases b3; rw [hd] at b6; cases b6
  have C := D0.hd.keeps I.base
  have hB : s.heap.BuiltinsAt c.mg t.P := ⟨bm, ob, b1, b2, hbG, hbP, hb3, b4, b5, b6⟩
  rcases hps with rfl | ⟨c', o, vs, tk, rfl, e1, e2, e3⟩
  · refine wpAny_tk (makeFunction_K (mg := c.mg) hcl hg hgs hcode C hP trivial rfl hgP hB fun c' ctv doc h' tk hx hge hlt hrec htb htk => ?_)
    obtain ⟨c₂, oc, vs, t', e2, hoc, hd, hv⟩ := hrec
    cases e2
    have keep : ∀ b o, s.heap.get? b = some o → b ≠ t.P → (h'.push (fnMade name t.q params body scope clos doc ((c.mg "__name__").getD .none) c' ctv)).get? b = some o := fun b o e hb => Heap.get?_push_of_some _ (hx b o hb e)
    refine ⟨fnX name t.q params body scope clos .none .none doc ((c.mg "__name__").getD .none) none (.ref c') ctv, ⟨_, _, _, _, rfl⟩, ⟨⟨Nat.lt_of_lt_of_le I.pos htk, fun b o e => keep b o (I.base b o e) (fun q => by rw [q, D0.gone] at e; cases e), fun t₂ ht₂ => ?_, fun x hx => ?_⟩, ⟨fun b o e ht => keep b o e fun q => ?_, fun b o e => ?_⟩, rfl⟩, ?_⟩
    · by_cases hq : t₂.P = t.P
      · have := D0.uniq t₂ ht₂ hq
        subst this
        exact ⟨_, Heap.get?_push_of_some _ htb, .inr ⟨c', oc, vs, t', by simp, Heap.get?_push_of_some _ hoc, hd, hv⟩⟩
      · obtain ⟨ps₂, hp₂, r₂⟩ := I.tabs t₂ ht₂
        refine ⟨ps₂, keep _ _ hp₂ hq, ?_⟩
        rcases r₂ with r₂ | ⟨c₂, o₂, vs₂, tk₂, f1, f2, f3, f4⟩
        · exact .inl r₂
        · refine .inr ⟨c₂, o₂, vs₂, tk₂, f1, keep _ _ f2 (fun q => ?_), f3, f4⟩
          rw [q, hP] at f2; cases f2; cases f3; simp at f4
    · obtain ⟨vs₂, n₂, e₂⟩ := I.av x hx
      exact ⟨vs₂, n₂, keep _ _ e₂ fun q => by rw [q, hP] at e₂; cases e₂⟩
    · rw [q, hP] at e; cases e; cases ht
    · by_cases hq : b = t.P
      · subst hq; exact ⟨_, Heap.get?_push_of_some _ htb⟩
      · exact ⟨o, keep b o e hq⟩
    · exact .fn (Heap.get?_push_size _ rfl) rfl rfl (Heap.get?_push_of_some _ hoc) hd hv
  · have hf : codeAmong t.pos (#[rawInt t.pos.line, rawInt t.pos.col, Value.ref c'] : Array Value).toList = some (.ref c') := by
      show (if ((t.pos.line : Int) == (t.pos.line : Int) && (t.pos.col : Int) == (t.pos.col : Int)) = true then _ else _) = _
      simp
    refine wpAny_tk (makeFunction_hit (mg := c.mg) hcl hg hgs hcode C hP trivial hf hB fun ctv doc h' tk hk hsz htk => ?_)
    refine ⟨fnX name t.q params body scope clos .none .none doc ((c.mg "__name__").getD .none) none (.ref c') ctv, ⟨_, _, _, _, rfl⟩, ⟨(I.keeps hk (tk' := tk) htk).push _, .of_keep fun b o e => Heap.get?_push_of_some _ (hk b o e), rfl⟩, ?_⟩
    exact .fn (Heap.get?_push_size _ rfl) rfl rfl (Heap.get?_push_of_some _ (hk _ _ e1)) e2 e3

theorem Ex.def_ {c : Cx} {env : Env} {s₀ : Shared} {n : Nat} {ρ : Vars} {t : TabSpec} {cd : Addr} {name : Str} {params : Arguments} {body : List Stmt} {scope : Scope} {clos : List (Str × Addr)} {pos : Pos} {rest : List Stmt} {P : Flow → Shared → Prop} (F : Frm c env s₀) (k : NmOk env s₀ name) (D0 : DefAt c t cd)
    (hcode : env.code = .ref cd) (hq : qualnameIn env name name = t.q) (hpos : pos = t.pos) (hcl : closureFor scope env = pure clos) (hr : ∀ fd, Made name t.q params body scope clos fd → Ex c env s₀ n ((name, .fn fd) :: ρ) rest P)
    (hd0 : params.defaults = [] := by rfl) (hk0 : params.kw_defaults = [] := by rfl) (ha : annTrees params none env = [] := by rfl) : Ex c env s₀ n ρ (.FunctionDef name params body [] none [] scope none name pos :: rest) P := by
  intro A s R S
  subst hpos
  refine wpAny_execs_cons (nestDef_K hd0 hk0 ha ?_)
  rw [hq]
  refine wpAny_mono (make_fn D0 S.inv hcl F.glob hcode) (fun v s₁ q => ?_) fun _ _ z => z.elim
  obtain ⟨fd, m, st, r⟩ := q
  refine wpAny_mono (store_name F (S.step st) r k.1 k.2) (fun _ s₂ S₂ => ?_) fun _ _ z => z.elim
  exact wpAny_mono (hr fd m A s₂ R S₂.2) (fun _ _ q => ⟨((Fram.of_ext st.ext).trans S₂.1.fram).trans q.1, q.2⟩) fun _ _ z => z

/-! ## A call of what a def within a def has made -/
def cloEnv (fd : FuncData) (L a : Addr) : Env := newEnv fd.scope L fd.globals fd.closure (fd.qualname ++ ".<locals>.") (some a) fd.code none fd.builtins

/-- the data behind the closure's names -/
def CloOk (X : List Addr) (h : Heap) (fd : FuncData) (ρ : Vars) : Prop := ∀ x d, ρ.lookup x = some d → fd.scope.names.lookup x = some .free ∧ ∃ a v, fd.closure.lookup x = some a ∧ h.IsCell a (some v) ∧ Rep X h v d

structure FnKind (fd : FuncData) (body : List Stmt) : Prop where
  body : fd.body = .stmts body
  glob : fd.globals = mainGlobals
  blt : fd.builtins = builtinsNs
  kind : fd.scope.kind = .function
  co : fd.scope.isCoroutine = false
  gen : fd.scope.isGenerator = false
  nocell : fd.scope.names.all (fun x => match x.2 with | .cell => false | _ => true) = true
theorem FnKind.nc {fd : FuncData} {body : List Stmt} (k : FnKind fd body) : ∀ x ∈ fd.scope.names, x.2 ≠ .cell := fun x hx e => by
  have := List.all_eq_true.mp k.nocell x hx
  rw [e] at this
  cases this

theorem rev_look {names : List Str} {vs : List Value} {x : Str} {v : Value} (hnd : ((names.zip vs).map (·.1)).Nodup) (h : (names.zip vs).lookup x = some v) : (names.zip vs).reverse.lookup x = some v := by
  have key : ∀ (l : List (Str × Value)), (l.map (·.1)).Nodup → l.lookup x = some v → l.reverse.lookup x = some v := by
    intro l
    induction l with
    | nil => intro _ h; cases h
    | cons p r ih =>
      intro hn h
      obtain ⟨y, u⟩ := p
      rw [List.map_cons, List.nodup_cons] at hn
      rw [List.reverse_cons, List.lookup_append]
      rw [List.lookup_cons] at h
      cases q : x == y with
      | true =>
        rw [q] at h; cases h
        have : x = y := eq_of_beq q
        subst this
        have hno : r.reverse.lookup x = none := by
          rw [List.lookup_eq_none_iff]
          intro p hp
          rw [bne_iff_ne]
          intro e
          have hm := List.mem_map_of_mem (f := fun p : Str × Value => p.1) (List.mem_reverse.mp hp)
          rw [← e] at hm
          exact hn.1 hm
        rw [hno]
        simp
      | false =>
        rw [q] at h
        rw [ih hn.2 h]; rfl
  exact key _ hnd h

/-- the body is run in a frame of its own; s₀ is where the call began that holds the def -/
theorem call_clo {c : Cx} {f : Addr} {fd : FuncData} {body : List Stmt} {names : List Str} {ds : List D} {vs : List Value} {ρ : Vars} {n : Nat} {P : Flow → Shared → Prop} {A : Around} {s₀ s : Shared} {Q : Value → Shared → Prop} (ok : FnKind fd body) (R : Room A (n + 1)) (I : Inv c s.heap s.toks) (hI₀ : ∀ a, s₀.heap.get? a = none → c.B.get? a = none)
    (ext : Ext s₀.heap s.heap) (sh : s = { s₀ with heap := s.heap, toks := s.toks }) (rf : Rep c.X s.heap (.ref f) (.fn fd)) (clo : CloOk c.X s.heap fd ρ) (own : ∀ x a, fd.closure.lookup x = some a → ∃ v, s.heap.IsCell a v) (ap : ∀ x y a, fd.closure.lookup x = some a → fd.closure.lookup y = some a → x = y)
    (r : Reps c.X s.heap vs ds) (hl : names.length = ds.length) (hbind : bindArgs fd ⟨vs, []⟩ = pure (names.zip vs)) (hnd : names.Nodup) (hh : (Str.ofString "_headers") ∉ names) (hkind : ∀ x ∈ names, fd.scope.names.lookup x = some .local) (hfree : ∀ x d, ρ.lookup x = some d → x ∉ names)
    (hb : ∀ L, s.heap.get? L = none → Frm c (cloEnv fd L f) s₀ → Ex c (cloEnv fd L f) s₀ n (names.zip ds ++ ρ) body P)
    (hQ : ∀ fl s', P fl s' → (∀ b o, s.heap.get? b = some o → isTab o = false → b ∉ c.X → s'.heap.get? b = some o) → Q (match fl with | .ret v => v | _ => .none) s') :
    wpAny c.M A (call (.ref f) vs) Q Never s := by
  cases rf with
  | fn e1 e2 e3 e4 e5 e6 =>
    refine wpAny_call ?_
    refine codeAny_call_function R.depthLt e1 e2 ok.co ok.gen ok.body ⟨_, _, _, _, e3, e4, e5, e6⟩ ?_
    rw [hbind]
    have hkeys : (names.zip vs).map (·.1) = names := by
      rw [List.map_fst_zip]
      rw [r.length, hl]; exact Nat.le_refl _
    refine wpAny_pure (wpAny_newFunctionEnv ok.nc (fun x hx => hkind x.1 (hkeys ▸ List.mem_map_of_mem hx)) (fun h' hns hsb => ?_) ok.kind)
    have hlim : s.heap.NoLimit := c.lim.keeps I.base
    have hLn : s.heap.get? s.heap.objs.size = none := get?_size _
    have keep : ∀ b o, s.heap.get? b = some o → h'.get? b = some o := fun b o e => (hsb.2 b (fun q => by rw [q, hLn] at e; cases e)).trans (Heap.get?_push_of_some _ e)
    refine ⟨hlim.keeps keep, codeAny_func ?_⟩
    have x' : Ext s.heap h' := .of_keep keep
    have F : Frm c (cloEnv fd s.heap.objs.size f) s₀ := ⟨⟨ok.kind, ok.glob, ok.blt⟩, ext.none hLn, hI₀, ap⟩
    have S : Sta c (cloEnv fd s.heap.objs.size f) s₀ (names.zip ds ++ ρ) { s with heap := h', toks := s.toks + (names.zip vs).length } := by
      have look : ∀ y d, (names.zip ds ++ ρ).lookup y = some d → ((names.zip ds).lookup y = some d) ∨ ρ.lookup y = some d := by
        intro y d e
        rw [List.lookup_append] at e
        cases q : (names.zip ds).lookup y with
        | some d' => rw [q] at e; exact .inl (by simpa using e)
        | none => rw [q] at e; exact .inr (by simpa using e)
      have inNames : ∀ {y v}, (names.zip vs).lookup y = some v → y ∈ names := fun w1 => by
        have := List.mem_map_of_mem (f := (·.1)) (mem_of_lookup w1)
        rw [hkeys] at this; exact this
      refine ⟨I.keeps keep (by show s.toks ≤ s.toks + _; omega), ext.trans x', ⟨⟨_, hns, ?_, fun y d e k => ?_⟩, fun y d e k => ?_, fun y a e => ?_, fun y d e => ?_⟩, by rw [sh]⟩
      · rw [List.lookup_eq_none_iff]
        intro p hp
        rw [bne_iff_ne]
        intro q
        have := List.mem_map_of_mem (f := (·.1)) (List.mem_reverse.mp hp)
        rw [hkeys] at this
        exact hh (q ▸ this)
      · rcases look y d e with e' | e'
        · obtain ⟨v, w1, w2⟩ := zip_look r e'
          exact ⟨v, rev_look (by rw [hkeys]; exact hnd) w1, w2.ext x'⟩
        · have := (clo y d e').1
          have k' : fd.scope.names.lookup y = some .local := k
          rw [this] at k'; cases k'
      · rcases look y d e with e' | e'
        · obtain ⟨v, w1, w2⟩ := zip_look r e'
          have k1 := hkind y (inNames w1)
          have k' : fd.scope.names.lookup y = some .cell ∨ fd.scope.names.lookup y = some .free := k
          rw [k1] at k'; rcases k' with k' | k' <;> cases k'
        · obtain ⟨_, a, v, w1, w2, w3⟩ := clo y d e'
          exact ⟨a, v, w1, x'.cell w2, w3.ext x'⟩
      · obtain ⟨v, w⟩ := own y a e
        exact ⟨v, x'.cell w⟩
      · rcases look y d e with e' | e'
        · obtain ⟨v, w1, w2⟩ := zip_look r e'
          exact .inl (hkind y (inNames w1))
        · exact .inr (.inr (clo y d e').1)
    refine wpAny_mono (hb _ hLn F (A.deeper _) _ R.deeper S) (fun fl s' q => hQ fl s' q.2 fun b o e ht hX => ?_) fun _ _ z => z.elim
    refine q.1 b o (keep b o e) ht fun w => ?_
    rcases w with rfl | ⟨y, hy, hk⟩ | w
    · have : s.heap.get? s.heap.objs.size = some o := e
      rw [hLn] at this; cases this
    · have k' : fd.scope.names.lookup y = some .cell := hk
      exact ok.nc (y, .cell) (mem_of_lookup k') rfl
    · exact hX w

theorem CloOk.of_st {X : List Addr} {env : Env} {ρ₀ ρ : Vars} {h : Heap} {fd : FuncData} (S : St X env ρ₀ h)
    (hx : ∀ x d, ρ.lookup x = some d → ρ₀.lookup x = some d ∧ (env.kindOf x = some .cell ∨ env.kindOf x = some .free) ∧ fd.scope.names.lookup x = some .free ∧ fd.closure.lookup x = env.cells.lookup x) : CloOk X h fd ρ := by
  intro x d e
  obtain ⟨h1, h2, h3, h4⟩ := hx x d e
  obtain ⟨a, v, w1, w2, w3⟩ := S.cel x d h1 h2
  exact ⟨h3, a, v, h4.trans w1, w2, w3⟩

def SubC (cells : List (Str × Addr)) : List (Str × Addr) → Prop
  | [] => True
  | (x, a) :: r => cells.lookup x = some a ∧ SubC cells r
theorem SubC.look {cells : List (Str × Addr)} : ∀ {cl : List (Str × Addr)} {x : Str} {a : Addr}, SubC cells cl → cl.lookup x = some a → cells.lookup x = some a
  | [], _, _, _, h => by cases h
  | (y, b) :: r, x, a, k, h => by
    rw [List.lookup_cons] at h
    cases q : x == y with
    | true => rw [q] at h; cases h; rw [eq_of_beq q]; exact k.1
    | false => rw [q] at h; exact SubC.look k.2 h
theorem ap_of {env : Env} {cl : List (Str × Addr)} (ap : Apart env) (sc : SubC env.cells cl) : ∀ x y a, cl.lookup x = some a → cl.lookup y = some a → x = y := fun x y a e1 e2 => ap x y a (sc.look e1) (sc.look e2)
/-- names that a closure hands on -/
def CloV (env : Env) (fd : FuncData) (ρ : Vars) : Vars → Prop
  | [] => True
  | (x, d) :: r => (ρ.lookup x = some d ∧ (env.kindOf x = some .cell ∨ env.kindOf x = some .free) ∧ fd.scope.names.lookup x = some .free ∧ fd.closure.lookup x = env.cells.lookup x) ∧ CloV env fd ρ r
theorem CloV.look {env : Env} {fd : FuncData} {ρ : Vars} : ∀ {ρ' : Vars} {x : Str} {d : D}, CloV env fd ρ ρ' → ρ'.lookup x = some d → ρ.lookup x = some d ∧ (env.kindOf x = some .cell ∨ env.kindOf x = some .free) ∧ fd.scope.names.lookup x = some .free ∧ fd.closure.lookup x = env.cells.lookup x
  | [], _, _, _, h => by cases h
  | (y, b) :: r, x, a, k, h => by
    rw [List.lookup_cons] at h
    cases q : x == y with
    | true => rw [q] at h; cases h; rw [eq_of_beq q]; exact k.1
    | false => rw [q] at h; exact CloV.look k.2 h

/-- a call of a closure gives d; what stood stands -/
def CloTo (c : Cx) (n : Nat) (fd : FuncData) (ρ : Vars) (ds : List D) (d : D) : Prop :=
  ∀ A s vs f, Room A n → Inv c s.heap s.toks → Rep c.X s.heap (.ref f) (.fn fd) → CloOk c.X s.heap fd ρ → (∀ x a, fd.closure.lookup x = some a → ∃ v, s.heap.IsCell a v) → Reps c.X s.heap vs ds → Gives c A (call (.ref f) vs) d s

theorem CloTo.of {c : Cx} {n : Nat} {fd : FuncData} {body : List Stmt} {ρ : Vars} {ds : List D} {d : D} (names : List Str) (ok : FnKind fd body) (ap : ∀ x y a, fd.closure.lookup x = some a → fd.closure.lookup y = some a → x = y) (hl : names.length = ds.length)
    (hbind : ∀ vs : List Value, vs.length = names.length → bindArgs fd ⟨vs, []⟩ = pure (names.zip vs)) (hnd : names.Nodup) (hh : (Str.ofString "_headers") ∉ names) (hkind : ∀ x ∈ names, fd.scope.names.lookup x = some .local) (hfree : ∀ x d, ρ.lookup x = some d → x ∉ names)
    (hb : ∀ L s f, Frm c (cloEnv fd L f) s → Ex c (cloEnv fd L f) s n (names.zip ds ++ ρ) body (RetP c s d)) : CloTo c (n + 1) fd ρ ds d := by
  intro A s vs f R I rf clo own r
  refine call_clo (s₀ := s) ok R I (fun a e => I.fresh e) (.refl _) rfl rf clo own ap r hl (hbind vs (by rw [r.length, hl])) hnd hh hkind hfree (fun L hL F => hb L s f F) fun fl s' q _ => ?_
  obtain ⟨v, rfl, st, rp⟩ := q
  exact ⟨st, rp⟩

theorem fn_at {X : List Addr} {h : Heap} {f : Addr} {fd : FuncData} (r : Rep X h (.ref f) (.fn fd)) : PySem.W.FnAt f h := by
  cases r with
  | @fn _ o _ _ _ _ _ e1 e2 =>
    obtain ⟨oc, od, dt, sl⟩ := o
    simp only at e2
    subst e2
    exact ⟨oc, od, fd, sl, e1⟩

theorem Ev.callClo {c : Cx} {env : Env} {n : Nat} {ρ ρ' : Vars} {x : Str} {p pos : Pos} {e : PySem.Expr} {es : List PySem.Expr} {fd : FuncData} {ds : List D} {d : D} (K : EnvOk env) (hx : ρ.lookup x = some (.fn fd)) (ha : Evs c env n ρ (e :: es) ds) (h : CloTo c n fd ρ' ds d)
    (hρ : CloV env fd ρ ρ') (hown : SubC env.cells fd.closure)
    (he : starEach (e :: es) env = (false, eval e env) :: starEach es env := by rfl) (hp : (backTo pos (starEach es env)).any (·.1) = false := by rfl) (hd : (x == ("__debug__" : Str)) = false := by decide) (hcd : (x == ("__classdict__" : Str)) = false := by decide) :
    Ev c env n ρ (.Call (.Name x p) (e :: es) [] pos) d := by
  intro A s R I S
  show wpAny c.M A (do callWith pos (← eval (.Name x p) env) [] (backTo pos (starEach (e :: es) env)) (backToKw pos (keywordEach [] env))) _ _ s
  refine wpAny_bind ((Ev.name (c := c) (n := n) (pos := p) K hx hd hcd A s R I S).use fun v s₁ y r => ?_)
  obtain ⟨f, rfl⟩ : ∃ f, v = .ref f := by cases r; exact ⟨_, rfl⟩
  refine callWith_F (fn_at r) (wpAny_mono (ha A s₁ pos R y.inv (S.ext y.ext)) (fun vs s₂ z => ⟨fn_at (r.ext z.1.ext), ?_⟩) fun _ _ z => z) he hp
  have S₂ := (S.ext y.ext).ext z.1.ext
  refine Gives.after (y.trans z.1) (h A s₂ vs f R z.1.inv (r.ext z.1.ext) (CloOk.of_st S₂ fun x d e => hρ.look e) (fun q a e => S₂.own q a (hown.look e)) z.2)

/-! ## A list of numbers that a closure writes -/
theorem set_exact {prog : Program} {w : World} {A : Around} {E : Value → Shared → Prop} {s : Shared} {l : Addr} {vs : List Value} {n : Nat} {k : Int} {t : Tok} {v : Value} {Q : Unit → Shared → Prop} (ho : s.heap.get? l = some (lstObj vs n)) (h0 : 0 ≤ k) (hfit : k < 2 ^ 63) (hn : k < vs.length)
    (hQ : ∀ h' m, h'.get? l = some (lstObj (vs.set k.toNat v) m) → Heap.SameBut l s.heap h' → Q () { s with heap := h' }) : wpAny (model prog w) A (setItem (.ref l) (.int k t) v) Q E s := by
  have hl := lst_isList ho
  unfold setItem
  try with_reducible refine wpAny_holding ?_
  first | refine wpAny_bind (wpAny_pure ?_) | skip
  refine wpAny_bind (wpAny_sequenceKey hl.typeIs (by decide) ?_)
  refine wpAny_bind (wpAny_callSpecial?_slot (name := Str.ofString "__setitem__") hl.typeIs slot_list_setitem
    (wpAny_call_entry slot_list_setitem hl.typeIs entry_list_setitem ?_ (args_list_setitem _ _ _)))
  show wpAny _ _ (Builtin.List.listSubscript? (.int k t) >>= _) _ _ s
  refine wpAny_bind (wpAny_listSubscript_int (fitsIndex_of h0 hfit) ?_)
  clear hfit
  obtain ⟨j, rfl⟩ := Int.eq_ofNat_of_zero_le h0
  have hj : j < vs.toArray.size := by rw [List.size_toArray]; omega
  have hx' : vs.toArray[j]? = some vs.toArray[j] := Array.getElem?_eq_getElem hj
  show wpAny _ _ ((seqItemAt l j >>= fun r => pure (r.map (j, ·))) >>= _) _ _ s
  refine wpAny_bind (wpAny_bind (wpAny_seqItemAt ho rfl (wpAny_pure ?_)))
  rw [hx']
  show wpAny _ _ (setSeqItemAt l j v >>= _) _ _ s
  have e : Obj.mapSeq (·.setIfInBounds j v) (lstObj vs n) = lstObj (vs.set j v) n := by
    simp only [Obj.mapSeq, lstObj]
    congr 1
    simp
  have hfin : (s.heap.update l (Obj.mapSeq (·.setIfInBounds j v))).get? l = some (lstObj (vs.set j v) n) := by
    rw [Heap.get?_update_self _ ho (by rw [e]; rfl), e]
  refine wpAny_bind (wpAny_setSeqItemAt ho rfl ?_)
  first
    | exact wpAny_bind (wpAny_pure (wpAny_pure ⟨.none, rfl, wpAny_pure (hQ _ _ hfin (Heap.SameBut.update ..))⟩))
    | exact wpAny_pure ⟨.none, rfl, wpAny_pure (hQ _ _ hfin (Heap.SameBut.update ..))⟩

/-- the state while the list at al holds ds -/
structure MSt (c : Cx) (s₀ : Shared) (al : Addr) (ds : List Int) (s : Shared) : Prop where
  inv : Inv (c.own al) s.heap s.toks
  ext : Ext s₀.heap s.heap
  sh : s = { s₀ with heap := s.heap, toks := s.toks }
  lst : ∃ vs m, s.heap.get? al = some (lstObj vs m) ∧ Reps (al :: c.X) s.heap vs (ds.map D.int)

theorem reps_ints {X Y : List Addr} {h h' : Heap} : ∀ {vs : List Value} {ns : List Int}, Reps X h vs (ns.map D.int) → Reps Y h' vs (ns.map D.int)
  | _, [], .nil => .nil
  | _, n :: ns, .cons r rs => by cases r; exact .cons (.int _ _) (reps_ints rs)

def VPlain (ρ : Vars) : Prop := ∀ x d, ρ.lookup x = some d → d.plain = true

theorem VPlain.nil : VPlain [] := fun _ _ h => nomatch h
theorem VPlain.cons {ρ : Vars} {x : Str} {d : D} (h : VPlain ρ) (hd : d.plain = true) : VPlain ((x, d) :: ρ) := by
  intro y d' e
  rw [List.lookup_cons] at e
  cases q : y == x with
  | true => rw [q] at e; cases e; exact hd
  | false => rw [q] at e; exact h y d' e
def SubV (ρ : Vars) : Vars → Prop
  | [] => True
  | (x, d) :: r => ρ.lookup x = some d ∧ SubV ρ r
theorem SubV.look {ρ : Vars} : ∀ {ρ' : Vars}, SubV ρ ρ' → ∀ x d, ρ'.lookup x = some d → ρ.lookup x = some d
  | [], _, _, _, h => by cases h
  | (y, b) :: r, k, x, a, h => by
    rw [List.lookup_cons] at h
    cases q : x == y with
    | true => rw [q] at h; cases h; rw [eq_of_beq q]; exact k.1
    | false => rw [q] at h; exact SubV.look k.2 x a h

theorem Sta.mst {c : Cx} {env : Env} {s₀ s : Shared} {ρ : Vars} {x : Str} {al : Addr} {ds : List Int} (S : Sta (c.own al) env s₀ ρ s) (hx : ρ.lookup x = some (.lst (some al) (ds.map D.int))) : MSt c s₀ al ds s := by
  refine ⟨S.inv, S.ext, S.sh, ?_⟩
  have key : ∀ {v}, Rep (al :: c.X) s.heap v (.lst (some al) (ds.map D.int)) → ∃ vs m, s.heap.get? al = some (lstObj vs m) ∧ Reps (al :: c.X) s.heap vs (ds.map D.int) := by
    intro v r
    cases r with
    | lst e t _ r => have := t al rfl; subst this; exact ⟨_, _, e, r⟩
  rcases S.st.kinds x _ hx with k | k
  · obtain ⟨m, _, _, hl⟩ := S.st.loc
    obtain ⟨v, _, r⟩ := hl x _ hx k
    exact key r
  · obtain ⟨a, v, _, _, r⟩ := S.st.cel x _ hx k
    exact key r

/-- behind a step that writes the list alone -/
theorem Sta.mut {c : Cx} {env : Env} {s₀ s s' : Shared} {ρ ρ' : Vars} {x : Str} {al : Addr} {ds ds' : List Int} (S : Sta (c.own al) env s₀ ρ s) (hx : ρ.lookup x = some (.lst (some al) (ds.map D.int))) (hk : env.kindOf x = some .cell ∨ env.kindOf x = some .free) (M : MSt c s₀ al ds' s')
    (keep : ∀ b o, s.heap.get? b = some o → isTab o = false → b ∉ al :: c.X → s'.heap.get? b = some o) (sub : ∀ y d, ρ'.lookup y = some d → ρ.lookup y = some d) (vp : VPlain ρ') :
    Sta (c.own al) env s₀ ((x, .lst (some al) (ds'.map D.int)) :: ρ') s' := by
  have sk : SeqKeep (al :: c.X) s.heap s'.heap := fun b o e t _ hX => keep b o e t hX
  have hav := S.inv.av
  obtain ⟨⟨m, hn, hm, hl⟩, hc, ho, hk'⟩ := S.st
  have nsk : s'.heap.Ns env.locals m := by
    have hnX := ns_notX S.inv hn
    obtain ⟨o, es, ep, e1, e2, r⟩ := hn
    exact ⟨o, es, ep, keep _ _ e1 (by unfold isTab; rw [e2]; cases o.cls <;> rfl) hnX, e2, r⟩
  have celk : ∀ {a v}, s.heap.IsCell a v → s'.heap.IsCell a v := by
    intro a v q
    have hX := cell_notX S.inv q
    obtain ⟨o, e1, e2⟩ := q
    exact ⟨o, keep _ _ e1 (by unfold isTab; rw [e2]; cases o.cls <;> rfl) hX, e2⟩
  have look : ∀ y d, ((x, D.lst (some al) (ds'.map D.int)) :: ρ').lookup y = some d → (y = x ∧ d = .lst (some al) (ds'.map D.int)) ∨ ρ'.lookup y = some d := by
    intro y d e
    rw [List.lookup_cons] at e
    cases q : y == x with
    | true => rw [q] at e; cases e; exact .inl ⟨eq_of_beq q, rfl⟩
    | false => rw [q] at e; exact .inr e
  refine ⟨M.inv, M.ext, ⟨⟨m, nsk, hm, fun y d e k => ?_⟩, fun y d e k => ?_, fun y a e => ?_, fun y d e => ?_⟩, M.sh⟩
  · rcases look y d e with ⟨rfl, rfl⟩ | e'
    · rw [k] at hk; rcases hk with q | q <;> cases q
    · obtain ⟨v, h1, h2⟩ := hl y d (sub y d e') k
      exact ⟨v, h1, h2.fram sk hav (vp y d e')⟩
  · rcases look y d e with ⟨rfl, rfl⟩ | e'
    · obtain ⟨a, v, h1, h2, h3⟩ := hc y _ hx hk
      obtain ⟨vs, m', e1, r1⟩ := M.lst
      have : v = .ref al := by cases h3 with | lst _ t _ _ => rw [t al rfl]
      subst this
      exact ⟨a, _, h1, celk h2, .lst e1 (fun _ q => by cases q; rfl) (fun q => by cases q) r1⟩
    · obtain ⟨a, v, h1, h2, h3⟩ := hc y d (sub y d e') k
      exact ⟨a, v, h1, celk h2, h3.fram sk hav (vp y d e')⟩
  · obtain ⟨v, q⟩ := ho y a e
    exact ⟨v, celk q⟩
  · rcases look y d e with ⟨rfl, rfl⟩ | e'
    · exact hk' y _ hx
    · exact hk' y d (sub y d e')

/-- a closure that turns ds to ds' and gives back None -/
def MutTo (c : Cx) (s₀ : Shared) (al : Addr) (n : Nat) (fd : FuncData) (ad : Str) (ρ : Vars) (args : List D) (ds ds' : List Int) : Prop :=
  ∀ A s vs f, Room A n → MSt c s₀ al ds s → Rep (al :: c.X) s.heap (.ref f) (.fn fd) → CloOk (al :: c.X) s.heap fd ((ad, .lst (some al) (ds.map D.int)) :: ρ) → (∀ x a, fd.closure.lookup x = some a → ∃ v, s.heap.IsCell a v) → Reps (al :: c.X) s.heap vs args →
    wpAny c.M A (call (.ref f) vs) (fun v s' => v = .none ∧ MSt c s₀ al ds' s' ∧ ∀ b o, s.heap.get? b = some o → isTab o = false → b ∉ al :: c.X → s'.heap.get? b = some o) Never s

/-- how the body of such a closure ends -/
def MutP (c : Cx) (s₀ : Shared) (al : Addr) (ds : List Int) : Flow → Shared → Prop := fun f s => (f = .next ∨ f = .ret .none) ∧ MSt c s₀ al ds s

theorem MutTo.of {c : Cx} {s₀ : Shared} {al : Addr} {n : Nat} {fd : FuncData} {ad : Str} {body : List Stmt} {ρ : Vars} {args : List D} {ds ds' : List Int} (hI₀ : ∀ a, s₀.heap.get? a = none → c.B.get? a = none) (names : List Str) (ok : FnKind fd body) (ap : ∀ x y a, fd.closure.lookup x = some a → fd.closure.lookup y = some a → x = y) (hl : names.length = args.length)
    (hbind : ∀ vs : List Value, vs.length = names.length → bindArgs fd ⟨vs, []⟩ = pure (names.zip vs)) (hnd : names.Nodup) (hh : (Str.ofString "_headers") ∉ names) (hkind : ∀ x ∈ names, fd.scope.names.lookup x = some .local) (hfree : ∀ x d, ((ad, D.lst (some al) (ds.map D.int)) :: ρ).lookup x = some d → x ∉ names)
    (hb : ∀ L f, Frm c (cloEnv fd L f) s₀ → Ex (c.own al) (cloEnv fd L f) s₀ n (names.zip args ++ (ad, .lst (some al) (ds.map D.int)) :: ρ) body (MutP c s₀ al ds')) : MutTo c s₀ al (n + 1) fd ad ρ args ds ds' := by
  intro A s vs f R M rf clo own r
  refine call_clo (c := c.own al) (s₀ := s₀) ok R M.inv hI₀ M.ext M.sh rf clo own ap r hl (hbind vs (by rw [r.length, hl])) hnd hh hkind hfree (fun L hL F => hb L f ⟨F.toEnvOk, F.loc, F.base, F.apart⟩) fun fl s' q keep => ?_
  obtain ⟨h1, h2⟩ := q
  refine ⟨?_, h2, keep⟩
  rcases h1 with rfl | rfl <;> rfl

/-- «f(..)» as a statement -/
theorem Ex.callMut {c : Cx} {env : Env} {s₀ : Shared} {n : Nat} {ρ ρ' ρc : Vars} {x ad : Str} {p cpos pos : Pos} {e : PySem.Expr} {es : List PySem.Expr} {fd : FuncData} {args : List D} {al : Addr} {ds ds' : List Int} {rest : List Stmt} {P : Flow → Shared → Prop} (F : Frm c env s₀) (hf : ρ.lookup x = some (.fn fd)) (hx : ρ.lookup ad = some (.lst (some al) (ds.map D.int)))
    (hk : env.kindOf ad = some .cell ∨ env.kindOf ad = some .free) (ha : Evs (c.own al) env n ρ (e :: es) args) (h : MutTo c s₀ al n fd ad ρc args ds ds') (hρ : CloV env fd ρ ((ad, .lst (some al) (ds.map D.int)) :: ρc)) (hown : SubC env.cells fd.closure)
    (sub : ∀ y d, ρ'.lookup y = some d → ρ.lookup y = some d) (vp : VPlain ρ') (hr : Ex (c.own al) env s₀ n ((ad, .lst (some al) (ds'.map D.int)) :: ρ') rest P)
    (hi : interactive env = false := by rfl) (hs : swapsWith (.Call (.Name x p) (e :: es) [] cpos) Option.none pos.line env = pure false := by rfl)
    (he : starEach (e :: es) env = (false, eval e env) :: starEach es env := by rfl) (hp : (backTo cpos (starEach es env)).any (·.1) = false := by rfl) (hd : (x == ("__debug__" : Str)) = false := by decide) (hcd : (x == ("__classdict__" : Str)) = false := by decide) :
    Ex (c.own al) env s₀ n ρ (.Expr (.Call (.Name x p) (e :: es) [] cpos) pos :: rest) P := by
  intro A s R S
  refine wpAny_execs_cons (wpAny_Expr ?_ hi hs)
  show wpAny c.M A (do callWith cpos (← eval (.Name x p) env) [] (backTo cpos (starEach (e :: es) env)) (backToKw cpos (keywordEach [] env))) _ _ s
  refine wpAny_bind (Gives.use (c := c.own al) (Ev.name (c := c.own al) (n := n) (pos := p) F.toEnvOk hf hd hcd A s R S.inv S.st) fun v s₁ y r => ?_)
  obtain ⟨f, rfl⟩ : ∃ f, v = .ref f := by cases r; exact ⟨_, rfl⟩
  refine callWith_F (fn_at r) (wpAny_mono (ha A s₁ cpos R y.inv (S.st.ext y.ext)) (fun vs s₂ z => ⟨fn_at (r.ext z.1.ext), ?_⟩) fun _ _ z => z.elim) he hp
  have S₂ := (S.step y).step z.1
  refine wpAny_mono (h A s₂ vs f R (S₂.mst hx) (r.ext z.1.ext) (CloOk.of_st S₂.st fun x d e => hρ.look e) (fun q a e => S₂.st.own q a (hown.look e)) z.2) (fun v s₃ q => ?_) fun _ _ z => z.elim
  obtain ⟨rfl, M, keep⟩ := q
  have S₃ := Sta.mut S₂ hx hk M keep sub vp
  refine wpAny_mono (hr A s₃ R S₃) (fun _ _ q => ⟨fun b o e t w => ?_, q.2⟩) fun _ _ z => z.elim
  exact q.1 b o (keep b o (z.1.ext.keep b o (y.ext.keep b o e t) t) t fun hX => w (.inr (.inr hX))) t w

/-- «a[i] = v» -/
theorem Ex.setItem {c : Cx} {env : Env} {s₀ : Shared} {n : Nat} {ρ ρ' : Vars} {ad : Str} {p spos pos : Pos} {i e : PySem.Expr} {al : Addr} {ds : List Int} {k : Nat} {v : Int} {rest : List Stmt} {P : Flow → Shared → Prop} (F : Frm c env s₀) (ha0 : s₀.heap.get? al = none) (hx : ρ.lookup ad = some (.lst (some al) (ds.map D.int)))
    (hk : env.kindOf ad = some .cell ∨ env.kindOf ad = some .free) (hv : Ev (c.own al) env n ρ e (.int v)) (hi : Ev (c.own al) env n ρ i (.int k)) (hlt : k < ds.length) (hl : ds.length ≤ 1000) (sub : ∀ y d, ρ'.lookup y = some d → ρ.lookup y = some d) (vp : VPlain ρ')
    (hr : Ex (c.own al) env s₀ n ((ad, .lst (some al) ((ds.set k v).map D.int)) :: ρ') rest P) (hs : swapsWith e (some (.Subscript (.Name ad p) i spos)) pos.line env = pure false := by rfl) (hd : (ad == ("__debug__" : Str)) = false := by decide) (hcd : (ad == ("__classdict__" : Str)) = false := by decide) :
    Ex (c.own al) env s₀ n ρ (.Assign [.Subscript (.Name ad p) i spos] e pos :: rest) P := by
  intro A s R S
  refine wpAny_execs_cons (wpAny_Assign_Subscript ?_ hs)
  refine Gives.use (c := c.own al) (hv A s R S.inv S.st) fun u s₁ y r => ?_
  refine Gives.use (c := c.own al) (Ev.name (c := c.own al) (n := n) (pos := p) F.toEnvOk hx hd hcd A s₁ R y.inv (S.st.ext y.ext)) fun o s₂ z r₂ => ?_
  refine Gives.use (c := c.own al) (hi A s₂ R z.inv (S.st.ext (y.trans z).ext)) fun q s₃ x r₃ => ?_
  obtain ⟨t, rfl⟩ := r₃.isInt
  obtain ⟨t', rfl⟩ := r.isInt
  have S₃ := ((S.step y).step z).step x
  rcases (r₂.ext x.ext).isLst with ⟨a', vs, m, rfl, e', tg, _, rs⟩
  ·
    have := tg al rfl
    subst this
    have hlen := rs.length
    rw [List.length_map] at hlen
    refine set_exact e' (by omega) (by omega) (by omega) fun h' m' e1 hsb => ?_
    rw [Int.toNat_natCast] at e1
    have hX : al ∈ (c.own al).X := List.mem_cons_self
    have rset : Reps (al :: c.X) h' (vs.set k (.int v t')) ((ds.set k v).map D.int) := by
      have key : ∀ {vs : List Value} {ns : List Int} (k : Nat), Reps (al :: c.X) s₃.heap vs (ns.map D.int) → Reps (al :: c.X) h' (vs.set k (.int v t')) ((ns.set k v).map D.int) := by
        intro vs
        induction vs with
        | nil => intro ns k r; cases ns with | nil => exact .nil | cons _ _ => cases r
        | cons u us ih =>
          intro ns k r
          cases ns with
          | nil => cases r
          | cons n ns =>
            cases r with
            | cons r1 r2 =>
              cases r1
              cases k with
              | zero => exact .cons (.int _ _) (reps_ints r2)
              | succ k => exact .cons (.int _ _) (ih k r2)
      exact key k rs
    have M : MSt c s₀ al (ds.set k v) { s₃ with heap := h' } :=
      ⟨S₃.inv.chg hsb.extBut (F.base _ ha0) (fun o q => by rw [e'] at q; cases q; rfl) fun _ => ⟨_, _, e1⟩, ext_same S₃.ext ha0 hsb.extBut, by rw [S₃.sh], ⟨_, _, e1, rset⟩⟩
    have keep : ∀ b o, s₃.heap.get? b = some o → isTab o = false → b ∉ al :: c.X → h'.get? b = some o := fun b o e _ hb => hsb.extBut b o (fun q => hb (q ▸ List.mem_cons_self)) e
    have S₄ := Sta.mut (s' := { s₃ with heap := h' }) S₃ hx hk M keep sub vp
    refine wpAny_mono (hr A _ R S₄) (fun _ _ q => ⟨fun b o e t w => ?_, q.2⟩) fun _ _ z => z.elim
    exact q.1 b o (keep b o (x.ext.keep b o (z.ext.keep b o (y.ext.keep b o e t) t) t) t fun hX => w (.inr (.inr hX))) t w
theorem Ex.retNone {c : Cx} {env : Env} {s₀ : Shared} {n : Nat} {ρ : Vars} {pos : Pos} {rest : List Stmt} {P : Flow → Shared → Prop} (hP : ∀ s, Sta c env s₀ ρ s → P (.ret .none) s) : Ex c env s₀ n ρ (.Return Option.none pos :: rest) P := by
  intro A s R S
  exact wpAny_execs_cons (wpAny_Return_none ⟨.refl _ _ _, hP s S⟩)
/-- «[x] * k» -/
theorem EvF.mul {c : Cx} {env : Env} {n : Nat} {ρ : Vars} {e r : PySem.Expr} {lp pos : Pos} {d : D} {k : Nat} (he : Ev c env n ρ e d) (hr : Ev c env n ρ r (.int k)) (hk : k ≤ 1000) (hes : starEach [e] env = (false, eval e env) :: starEach [] env := by rfl) : EvF c env n ρ (.BinOp (.List [e] lp) .Mult r pos) (List.replicate k d) := by
  intro A s R I S
  have h₁ : Ev c env n ρ (.List [e] lp) (.lst Option.none [d]) := Ev.list (Evs.cons he Evs.nil hes)
  refine wpAny_BinOp ((h₁ A s R I S).use fun v s₁ x r₁ => (hr A s₁ R x.inv (S.ext x.ext)).use fun u s₂ y r₂ => ?_)
  obtain ⟨t, rfl⟩ := r₂.isInt
  rcases (r₁.ext y.ext).isLst with ⟨l, vs, m, rfl, hl, _, _, r⟩
  ·
    obtain ⟨v, rfl, rv⟩ := one_of r
    refine mul_one hl (by omega) (by omega) ?_
    have rk : ∀ k : Nat, Reps c.X s₂.heap (List.replicate k v) (List.replicate k d) := by
      intro k
      induction k with
      | zero => exact .nil
      | succ k ih => exact .cons rv ih
    exact ⟨_, List.replicate k v, 0, rfl, (x.trans y).ext.none (get?_size _), (x.trans y).trans (.push y.inv _), new_lst (by simp), (rk k).ext (.push _ _)⟩

local macro_rules | `(tactic| walk_at "mE") => `(tactic| first
  | ((with_reducible show Ev _ _ _ _ (PySem.Expr.Name _ _) _); exact Ev.name (by assumption) rfl)
  | ((with_reducible show Ev _ _ _ _ (PySem.Expr.Constant (PySem.Const.int _) _ _) _); exact Ev.int)
  | ((with_reducible show Ev _ _ _ _ (PySem.Expr.Constant (PySem.Const.float _) _ _) _); exact Ev.flt)
  | ((with_reducible show Ev _ _ _ _ (PySem.Expr.Constant (PySem.Const.str _) _ _) _); exact Ev.str)
  | ((with_reducible show Ev _ _ _ _ (PySem.Expr.Constant (PySem.Const.bool _) _ _) _); exact Ev.bool)
  | with_reducible exact Ev.none
  | ((with_reducible show Ev _ _ _ _ (PySem.Expr.BinOp _ _ _ _) _); exact Ev.bin (by walk_at "mE") (by walk_at "mE") (by walk_at "mOp"))
  | ((with_reducible show Ev _ _ _ _ (PySem.Expr.UnaryOp _ _ _) _); exact Ev.un (by walk_at "mE") (by walk_at "mU"))
  | ((with_reducible show Ev _ _ _ _ (PySem.Expr.Tuple _ _ _) _); exact Ev.tuple (by walk_at "mEs"))
  | ((with_reducible show Ev _ _ _ _ (PySem.Expr.List _ _) _); exact Ev.list (by walk_at "mEs"))
  | ((with_reducible show Ev _ _ _ _ (PySem.Expr.Subscript _ (PySem.Expr.Slice (some _) _ _ _) _) _); first | exact Ev.sliceFrom (k := 1) (by walk_at "mE") (by exact Ev.int) | exact Ev.sliceFrom (k := 2) (by walk_at "mE") (by exact Ev.int))
  | ((with_reducible show Ev _ _ _ _ (PySem.Expr.Subscript _ (PySem.Expr.Slice Option.none _ _ _) _) _); first | exact Ev.sliceTo (k := 1) (by walk_at "mE") (by exact Ev.int) | exact Ev.sliceTo (k := 2) (by walk_at "mE") (by exact Ev.int))
  | ((with_reducible show Ev _ _ _ _ (PySem.Expr.Subscript _ _ _) _); exact Ev.itm (by walk_at "mE") (by walk_at "mE") (by walk_at "mG") (by walk_at "mI"))
  | ((with_reducible show Ev _ _ _ _ (PySem.Expr.Call (PySem.Expr.Name _ _) _ _ _) _); exact Ev.call (by assumption) rfl (by walk_at "mGl") (by walk_at "mCa") (by walk_at "mEs") (by walk_at "mC")))
local macro_rules | `(tactic| walk_at "mEs") => `(tactic| first
  | with_reducible exact Evs.nil
  | exact Evs.cons (by walk_at "mE") (by walk_at "mEs"))
local macro_rules | `(tactic| walk_at "mCa") => `(tactic| first
  | ((with_reducible show Callee _ (Value.builtin _)); exact Or.inl ⟨_, rfl⟩)
  | ((with_reducible show Callee _ (Value.type _)); exact Or.inr (Or.inl ⟨_, rfl⟩))
  | exact callee_of (by assumption) rfl)
local macro_rules | `(tactic| walk_at "mG") => `(tactic| first
  | with_reducible exact Getter.lst
  | with_reducible exact Getter.tup
  | with_reducible exact Getter.str
  | with_reducible exact Getter.scr)
local macro_rules | `(tactic| walk_at "mS") => `(tactic| first
  | assumption
  | decide
  | omega)
local macro_rules | `(tactic| walk_at "mI") => `(tactic| first
  | ((with_reducible show Itm _ _ (D.tup _) _ _); exact Itm.tup (by walk_at "mS") (by walk_at "mS") (by first | rfl | assumption))
  | ((with_reducible show Itm _ _ (D.lst _ _) _ _); exact Itm.lst (by walk_at "mS") (by walk_at "mS") (by first | rfl | assumption)))
local macro_rules | `(tactic| walk_at "mU") => `(tactic| first
  | with_reducible exact Un.neg
  | with_reducible exact Un.inv)
local macro_rules | `(tactic| walk_at "mOp") => `(tactic| first
  | with_reducible exact Bin.subF
  | with_reducible exact Bin.addF
  | with_reducible exact Bin.mulF
  | with_reducible exact Bin.addI
  | with_reducible exact Bin.subI
  | with_reducible exact Bin.xorI
  | ((with_reducible refine Bin.divF ?_); walk_at "mS")
  | ((with_reducible refine Bin.modF ?_); walk_at "mS")
  | ((with_reducible refine Bin.mulIF ?_); decide +kernel)
  | ((with_reducible refine Bin.subIF ?_); decide +kernel)
  | ((with_reducible refine Bin.powI ?_ ?_ ?_) <;> walk_at "mS")
  | ((with_reducible refine Bin.shrI ?_) <;> walk_at "mS")
  | ((with_reducible refine Bin.shlI ?_ ?_ ?_) <;> walk_at "mS")
  | ((with_reducible refine Bin.mulI ?_); first | (left; walk_at "mS") | (right; walk_at "mS"))
  | ((with_reducible refine Bin.modI ?_ ?_) <;> walk_at "mS")
  | ((with_reducible refine Bin.divI ?_ ?_) <;> walk_at "mS")
  | ((with_reducible refine Bin.addT ?_ ?_ ?_) <;> simp)
  | ((with_reducible refine Bin.mulFI ?_); walk_at "mS")
  | ((with_reducible refine Bin.divIF ?_ ?_) <;> first | assumption | decide +kernel))
local macro_rules | `(tactic| walk_at "mCm") => `(tactic| first
  | with_reducible exact Cmp.eqF
  | with_reducible exact Cmp.eqI
  | with_reducible exact Cmp.neI
  | with_reducible exact Cmp.ltI
  | with_reducible exact Cmp.leI
  | with_reducible exact Cmp.gtI
  | with_reducible exact Cmp.eqS
  | with_reducible exact Cmp.inT
  | with_reducible exact Cmp.inL)
local macro_rules | `(tactic| walk_at "mT") => `(tactic| first
  | ((with_reducible show Tru _ _ _ _ (PySem.Expr.Compare _ [_] _ _) _); exact Tru.cmp (by walk_at "mE") (by walk_at "mE") (by walk_at "mCm"))
  | ((with_reducible show Tru _ _ _ _ (PySem.Expr.BoolOp _ _ _) _); exact Tru.boolOp (by walk_at "mTs"))
  | ((with_reducible show Tru _ _ _ _ (PySem.Expr.UnaryOp .Not _ _) _); exact Tru.not (by walk_at "mT"))
  | ((with_reducible show Tru _ _ _ _ (PySem.Expr.Compare _ [_, _] _ _) _); exact Tru.chain (by walk_at "mE") (by walk_at "mE") (by walk_at "mE") (by walk_at "mCm") (by walk_at "mCm"))
  | exact Tru.value (by walk_at "mE") (by first | with_reducible exact Truthy.bool | with_reducible exact Truthy.int))
local macro_rules | `(tactic| walk_at "mTs") => `(tactic| first
  | with_reducible exact Trus.and_nil
  | with_reducible exact Trus.or_nil
  | ((with_reducible show Trus _ _ _ _ .And _ _); exact Trus.and_cons (by walk_at "mT") (fun _ => by walk_at "mTs"))
  | ((with_reducible show Trus _ _ _ _ .Or _ _); exact Trus.or_cons (by walk_at "mT") (fun _ => by walk_at "mTs")))
local macro_rules | `(tactic| walk_at "mGl") => `(tactic| first
  | with_reducible exact g_max (by assumption)
  | with_reducible exact g_min (by assumption)
  | with_reducible exact g_round (by assumption)
  | with_reducible exact g_range (by assumption)
  | with_reducible exact g_len (by assumption)
  | with_reducible exact g_sum (by assumption)
  | with_reducible exact g_str (by assumption)
  | with_reducible exact g_int (by assumption)
  | with_reducible exact g_divmod (by assumption)
  | with_reducible exact g_hsv (by assumption)
  | with_reducible exact g_div2 (by assumption)
  | with_reducible exact g_i2d (by assumption)
  | with_reducible exact g_d2i (by assumption)
  | with_reducible exact g_dmp (by assumption)
  | with_reducible exact g_idm (by assumption))
local macro_rules | `(tactic| walk_at "mC") => `(tactic| first
  | with_reducible exact CallTo.max3
  | with_reducible exact CallTo.min3
  | with_reducible exact CallTo.maxL
  | with_reducible exact CallTo.minL
  | with_reducible exact CallTo.minI
  | with_reducible exact CallTo.max2
  | with_reducible exact CallTo.min2
  | with_reducible exact CallTo.range
  | with_reducible exact CallTo.sum
  | ((with_reducible refine CallTo.round ?_); walk_at "mS")
  | with_reducible assumption)
local macro_rules | `(tactic| walk_at "mN") => `(tactic| first
  | exact NmOk.loc
  | exact NmOk.cell (by assumption) (by rfl) (by rfl))
local macro_rules | `(tactic| walk_at "mK") => `(tactic| first
  | exact trivial
  | (refine ⟨⟨rfl, ?_, ?_⟩, ?_⟩
     · first | exact .inl rfl | exact .inr rfl
     · first | exact .inl rfl | exact .inr rfl
     · walk_at "mK"))

/-! ## rgb_to_hsv -/
structure Hsv where
  h : UInt64
  s : UInt64
  v : UInt64
def two : UInt64 := 0x4000000000000000
def hsvH (r g b : UInt64) : UInt64 :=
  let mx := fmax3 r g b
  let rg := Float64.sub mx (fmin3 r g b)
  let rc := Float64.div (Float64.sub mx r) rg
  let gc := Float64.div (Float64.sub mx g) rg
  let bc := Float64.div (Float64.sub mx b) rg
  let h := if feq r mx then Float64.sub bc gc else if feq g mx then Float64.sub (Float64.add 0x4000000000000000 rc) bc else Float64.sub (Float64.add 0x4010000000000000 gc) rc
  (Float64.divmod (Float64.div h 0x4018000000000000) 0x3ff0000000000000).snd
def hsvOf (r g b : UInt64) : Hsv :=
  if feq (fmin3 r g b) (fmax3 r g b) then ⟨0, 0, fmax3 r g b⟩ else ⟨hsvH r g b, Float64.div (Float64.sub (fmax3 r g b) (fmin3 r g b)) (fmax3 r g b), fmax3 r g b⟩
def hsvOk (r g b : UInt64) : Bool := feq (fmin3 r g b) (fmax3 r g b) || (!Float64.isZero (fmax3 r g b) && !Float64.isZero (Float64.sub (fmax3 r g b) (fmin3 r g b)))

theorem call_hsv {c : Cx} (G : Good c) {n : Nat} {r g b : UInt64} (ok : hsvOk r g b = true) : CallTo c (n + 1) (.ref 45) [.flt r, .flt g, .flt b] (.tup [.flt (hsvOf r g b).h, .flt (hsvOf r g b).s, .flt (hsvOf r g b).v]) := by
  refine CallTo.fn [Str.ofString "r", Str.ofString "g", Str.ofString "b"] (FnOk.of (by rw [G.K]; rfl) rfl (by rw [G.K]; rfl) rfl rfl rfl rfl rfl rfl rfl rfl rfl) rfl ?_ ?_ ?_ ?_ ?_
  · intro vs h
    match vs, h with
    | [a, b, c], _ => rfl
  · decide
  · decide
  · intro x hx
    simp only [List.mem_cons, List.not_mem_nil, or_false] at hx
    rcases hx with rfl | rfl | rfl <;> exact .inl rfl
  · intro L s FF
    have F := FF.toFrm
    have K := FF.toEnvOk
    refine Ex.assign F NmOk.loc (by walk_at "mE") ?_
    refine Ex.assign F NmOk.loc (by walk_at "mE") ?_
    refine Ex.assign F NmOk.loc (by walk_at "mE") ?_
    refine Ex.assign F NmOk.loc (by walk_at "mE") ?_
    refine Ex.if_ (by walk_at "mT") (fun h => ?_) (fun h => ?_)
    · rw [show hsvOf r g b = ⟨0, 0, fmax3 r g b⟩ from if_pos h]
      exact Ex.ret (Ev.cast (by walk_at "mE") rfl) fun v s' S r => ⟨v, rfl, S.stp, r⟩
    · rw [show hsvOf r g b = ⟨hsvH r g b, Float64.div (Float64.sub (fmax3 r g b) (fmin3 r g b)) (fmax3 r g b), fmax3 r g b⟩ from if_neg (by rw [h]; exact Bool.false_ne_true)]
      have z1 : Float64.isZero (fmax3 r g b) = false := by
        unfold hsvOk at ok; rw [h] at ok; simp at ok; simpa using ok.1
      have z2 : Float64.isZero (Float64.sub (fmax3 r g b) (fmin3 r g b)) = false := by
        unfold hsvOk at ok; rw [h] at ok; simp at ok; simpa using ok.2
      refine Ex.nil fun s' S => ⟨_, S, ?_⟩
      refine Ex.assign F NmOk.loc (by walk_at "mE") ?_
      refine Ex.assign F NmOk.loc (by walk_at "mE") ?_
      refine Ex.assign F NmOk.loc (by walk_at "mE") ?_
      refine Ex.assign F NmOk.loc (by walk_at "mE") ?_
      have six : Float64.isZero 4618441417868443648 = false := by decide +kernel
      have one : Float64.isZero 4607182418800017408 = false := by decide +kernel
      cases q1 : feq r (fmax3 r g b) with
      | true =>
        refine Ex.if_ (by walk_at "mT") (fun h => ?_) (fun h => ?_)
        · refine Ex.assign F NmOk.loc (by walk_at "mE") (Ex.nil fun s' S => ⟨_, S, ?_⟩)
          refine Ex.assign F NmOk.loc (by walk_at "mE") ?_
          refine Ex.back ?_
          have e : hsvH r g b = (Float64.divmod (Float64.div (Float64.sub (Float64.div (Float64.sub (fmax3 r g b) b) (Float64.sub (fmax3 r g b) (fmin3 r g b))) (Float64.div (Float64.sub (fmax3 r g b) g) (Float64.sub (fmax3 r g b) (fmin3 r g b)))) 0x4018000000000000) 0x3ff0000000000000).snd := by
            unfold hsvH; simp only [q1, if_true]
          rw [e]
          exact Ev.cast (by walk_at "mE") rfl
        · rw [q1] at h; cases h
      | false =>
        refine Ex.if_ (by walk_at "mT") (fun h => ?_) (fun h => ?_)
        · rw [q1] at h; cases h
        · cases q2 : feq g (fmax3 r g b) with
          | true =>
            refine Ex.if_ (by walk_at "mT") (fun h => ?_) (fun h => ?_)
            · refine Ex.assign F NmOk.loc (by walk_at "mE") (Ex.nil fun s' S => ⟨_, S, Ex.nil fun s'' S' => ⟨_, S', ?_⟩⟩)
              refine Ex.assign F NmOk.loc (by walk_at "mE") ?_
              refine Ex.back ?_
              have e : hsvH r g b = (Float64.divmod (Float64.div (Float64.sub (Float64.add 0x4000000000000000 (Float64.div (Float64.sub (fmax3 r g b) r) (Float64.sub (fmax3 r g b) (fmin3 r g b)))) (Float64.div (Float64.sub (fmax3 r g b) b) (Float64.sub (fmax3 r g b) (fmin3 r g b)))) 0x4018000000000000) 0x3ff0000000000000).snd := by
                unfold hsvH; simp only [q1, q2, if_true, Bool.false_eq_true, if_false]
              rw [e]
              exact Ev.cast (by walk_at "mE") rfl
            · rw [q2] at h; cases h
          | false =>
            refine Ex.if_ (by walk_at "mT") (fun h => ?_) (fun h => ?_)
            · rw [q2] at h; cases h
            · refine Ex.assign F NmOk.loc (by walk_at "mE") (Ex.nil fun s' S => ⟨_, S, Ex.nil fun s'' S' => ⟨_, S', ?_⟩⟩)
              refine Ex.assign F NmOk.loc (by walk_at "mE") ?_
              refine Ex.back ?_
              have e : hsvH r g b = (Float64.divmod (Float64.div (Float64.sub (Float64.add 0x4010000000000000 (Float64.div (Float64.sub (fmax3 r g b) g) (Float64.sub (fmax3 r g b) (fmin3 r g b)))) (Float64.div (Float64.sub (fmax3 r g b) r) (Float64.sub (fmax3 r g b) (fmin3 r g b)))) 0x4018000000000000) 0x3ff0000000000000).snd := by
                unfold hsvH; simp only [q1, q2, Bool.false_eq_true, if_false]
              rw [e]
              exact Ev.cast (by walk_at "mE") rfl

/-- a loop that keeps its names -/
theorem Ex.forK {c : Cx} {env : Env} {s₀ : Shared} {n : Nat} {ρ : Vars} {target iter : PySem.Expr} {body rest : List Stmt} {pos : Pos} {ds : List D} {P : Flow → Shared → Prop} (F : Frm c env s₀)
    (J : List D → Prop) (hsrc : Src c env n ρ iter ds) (h0 : J ds)
    (turn : ∀ d ds, J (d :: ds) → ∃ ρ₂, Tgt c env s₀ n target d ρ ρ₂ ∧ Ex c env s₀ n ρ₂ body (fun f s => match f with
      | .next => J ds ∧ Sta c env s₀ ρ s
      | .cont => J ds ∧ Sta c env s₀ ρ s
      | .brk => False
      | .ret v => P (.ret v) s))
    (done : J [] → Ex c env s₀ n ρ rest P) (hp : D.plains ds = true)
    (hfs : ∀ x, foldedSetIterable iter env x = pure x := by intro _; rfl) : Ex c env s₀ n ρ (.For target iter body [] pos :: rest) P := by
  refine Ex.for_ F (fun ds ρ₁ => J ds ∧ ρ₁ = ρ) hsrc ⟨h0, rfl⟩ ?_ (fun ρ₁ h => h.2 ▸ done h.1) hp hfs
  rintro d ds ρ₁ ⟨h, rfl⟩
  obtain ⟨ρ₂, t, b⟩ := turn d ds h
  refine ⟨ρ₂, t, b.mono fun f s q => ?_⟩
  cases f with
  | next => exact ⟨_, ⟨q.1, rfl⟩, q.2⟩
  | cont => exact ⟨_, ⟨q.1, rfl⟩, q.2⟩
  | brk => exact q
  | ret v => exact q

abbrev Tri := Int × Int × Int
def Tri.d (t : Tri) : D := .tup [.int t.1, .int t.2.1, .int t.2.2]
theorem Tri.plain (t : Tri) : t.d.plain = true := by simp [Tri.d, D.plain, D.plains]
/-! ## _law_parted -/
def partedL (tri : Tri) (u v p : Int) : List Tri → List Tri
  | [] => [tri]
  | (x, y, z) :: r => if ([u, v].contains x && ([u, v].contains y && true)) = true then [(x, p, z), (p, y, z)] else partedL tri u v p r
def parted (tri : Tri) (u v p : Int) : List Tri := partedL tri u v p [tri, (tri.2.1, tri.2.2, tri.1), (tri.2.2, tri.1, tri.2.1)]

theorem call_parted {c : Cx} (G : Good c) {n : Nat} {tri : Tri} {u v p : Int} : CallTo c (n + 1) (.ref 241) [tri.d, .tup [.int u, .int v], .int p] (.lst Option.none ((parted tri u v p).map Tri.d)) := by
  obtain ⟨a, b, e⟩ := tri
  show CallTo c (n + 1) (.ref 241) [.tup [.int a, .int b, .int e], .tup [.int u, .int v], .int p] _
  refine CallTo.fn [Str.ofString "triangle", Str.ofString "side", Str.ofString "p"] (FnOk.of (by rw [G.K]; rfl) rfl (by rw [G.K]; rfl) rfl rfl rfl rfl rfl rfl rfl rfl rfl) rfl ?_ ?_ ?_ ?_ ?_
  · intro vs h
    match vs, h with
    | [a, b, c], _ => rfl
  · decide
  · decide
  · intro x hx
    simp only [List.mem_cons, List.not_mem_nil, or_false] at hx
    rcases hx with rfl | rfl | rfl <;> exact .inl rfl
  · intro L s FF
    have F := FF.toFrm
    have K := FF.toEnvOk
    refine Ex.forK (ds := [(a, b, e), (b, e, a), (e, a, b)].map Tri.d) F (fun ds => ∃ rest : List Tri, ds = rest.map Tri.d ∧ parted (a, b, e) u v p = partedL (a, b, e) u v p rest) (Src.lst (Ev.cast (by walk_at "mE") (by rfl))) ⟨_, rfl, rfl⟩ ?_ ?_ ?_
    · rintro d ds ⟨rest, hd, hr⟩
      cases rest with
      | nil => cases hd
      | cons t rest =>
        obtain ⟨x, y, z⟩ := t
        cases hd
        refine ⟨_, Tgt.tuple (Tgts.cons F NmOk.loc (Tgts.cons F NmOk.loc (Tgts.cons F NmOk.loc Tgts.nil))), ?_⟩
        refine Ex.if_ (Tru.boolOp (Trus.and_cons (Tru.cmp (by walk_at "mE") (by walk_at "mE") (Cmp.inT (ns := [u, v]))) fun _ => Trus.and_cons (Tru.cmp (by walk_at "mE") (by walk_at "mE") (Cmp.inT (ns := [u, v]))) fun _ => Trus.and_nil)) (fun h => ?_) (fun h => ?_)
        · have e1 : parted (a, b, e) u v p = [(x, p, z), (p, y, z)] := by rw [hr, partedL, if_pos h]
          rw [e1]
          exact Ex.ret (Ev.cast (by walk_at "mE") (by rfl)) fun v s' S r => ⟨v, rfl, S.stp, r⟩
        · have e1 : parted (a, b, e) u v p = partedL (a, b, e) u v p rest := by rw [hr, partedL, if_neg (by rw [h]; exact Bool.false_ne_true)]
          refine Ex.nil fun s' S => ⟨_, S, Ex.nil fun s'' S' => ⟨⟨rest, rfl, e1⟩, S'.less fun y d q => ?_⟩⟩
          exact sub_cons rfl y d (sub_cons rfl y d (sub_cons rfl y d q))
    · rintro ⟨rest, hd, hr⟩
      cases rest with
      | cons t rest => cases hd
      | nil =>
        have e1 : parted (a, b, e) u v p = [(a, b, e)] := hr
        rw [e1]
        exact Ex.ret (Ev.cast (by walk_at "mE") (by rfl)) fun v s' S r => ⟨v, rfl, S.stp, r⟩
    · exact plains_map fun t _ => t.plain

/-! ## _law_letter -/
theorem m_index : MethOk "list" "index" "list.index" := ⟨F.plainAttrs_list, F.slot_list_index, F.type_list_index⟩

section
variable (x y z : UInt64)
def lSpan : Int := fround (Float64.mul (Float64.ofInt 64) (Float64.sub (fmax3 x y z) (fmin3 x y z)))
def lUnit : Int := if lSpan x y z > 1 then lSpan x y z else 1
def lTurn : UInt64 := Float64.mul (Float64.mul (hsvOf x y z).h (Float64.ofInt 6)) (Float64.ofInt (lUnit x y z))
def lPlace : Int := fround (lTurn x y z)
end
def lWay (unit place i : Int) : Int := if Int.fmod (2 * unit * i - place) (6 * unit) < Int.fmod (place - 2 * unit * i) (6 * unit) then Int.fmod (2 * unit * i - place) (6 * unit) else Int.fmod (place - 2 * unit * i) (6 * unit)
def lDue (big span unit way : Int) : Int := big - (if (if way - unit > 0 then way - unit else 0) < span then (if way - unit > 0 then way - unit else 0) else span)
def lWays (x y z : UInt64) : List Int := [0, 1, 2].map (lWay (lUnit x y z) (lPlace x y z))
def lBig (x : UInt64) : Int := fround (Float64.mul (Float64.ofInt 64) x)
def ltr (j : Nat) : Str := ⟨#[[114, 103, 98].getD j 0]⟩
def letterOk (x y z : UInt64) (j : Nat) : Bool :=
  hsvOk x y z
  && Float64.isFinite (Float64.mul (Float64.ofInt 64) (Float64.sub (fmax3 x y z) (fmin3 x y z)))
  && Float64.isFinite (lTurn x y z) && !Float64.isInf (Float64.ofInt (lUnit x y z)) && decide (lUnit x y z ≤ 64)
  && Float64.isFinite (Float64.mul (Float64.ofInt 64) (fmax3 x y z)) && !Float64.isZero (fmax3 x y z)
  && Float64.isFinite (Float64.mul (Float64.ofInt 64) x) && Float64.isFinite (Float64.mul (Float64.ofInt 64) y) && Float64.isFinite (Float64.mul (Float64.ofInt 64) z)
  && feq (hsvOf x y z).s (Float64.sub (Float64.ofInt 1) (Float64.div (fmin3 x y z) (fmax3 x y z))) && feq (hsvOf x y z).v (fmax3 x y z)
  && decide ([x, y, z].map lBig = (lWays x y z).map (lDue (lBig (fmax3 x y z)) (lSpan x y z) (lUnit x y z)))
  && Float64.isFinite (Float64.mul (lTurn x y z) (Float64.ofInt (2 ^ 20)))
  && decide (fround (Float64.mul (lTurn x y z) (Float64.ofInt (2 ^ 20))) = lPlace x y z * 2 ^ 20)
  && decide (0 ≤ lPlace x y z ∧ lPlace x y z < 6 * lUnit x y z ∧ lPlace x y z ≤ 6 * lSpan x y z)
  && decide (j < 3) && decide ((lWays x y z)[j]? = some (imin3 (lWay (lUnit x y z) (lPlace x y z) 0) (lWay (lUnit x y z) (lPlace x y z) 1) (lWay (lUnit x y z) (lPlace x y z) 2)))
  && (List.range j).all (fun m => decide ((lWays x y z)[m]? ≠ some (imin3 (lWay (lUnit x y z) (lPlace x y z) 0) (lWay (lUnit x y z) (lPlace x y z) 1) (lWay (lUnit x y z) (lPlace x y z) 2))))

theorem call_letter {c : Cx} (G : Good c) {n : Nat} {x y z : UInt64} {j : Nat} (ok : letterOk x y z j = true) : CallTo c (n + 21) (.ref 234) [.lst Option.none [.flt x, .flt y, .flt z]] (.str (ltr j)) := by
  unfold letterOk at ok
  simp only [Bool.and_eq_true, decide_eq_true_eq, Bool.not_eq_true'] at ok
  obtain ⟨⟨⟨⟨⟨⟨⟨⟨⟨⟨⟨⟨⟨⟨⟨⟨⟨⟨k1, k2⟩, k3⟩, k4⟩, k5⟩, k6⟩, k7⟩, k8⟩, k9⟩, k10⟩, k11⟩, k12⟩, k13⟩, k14⟩, k15⟩, k16⟩, k17⟩, k18⟩, k19⟩ := ok
  have u1 : 1 ≤ lUnit x y z := by unfold lUnit; split <;> omega
  refine CallTo.fn [Str.ofString "sizes"] (FnOk.of (by rw [G.K]; rfl) rfl (by rw [G.K]; rfl) rfl rfl rfl rfl rfl rfl rfl rfl rfl) rfl ?_ ?_ ?_ ?_ ?_
  · intro vs h
    match vs, h with
    | [a], _ => rfl
  · decide
  · decide
  · intro x hx
    simp only [List.mem_cons, List.not_mem_nil, or_false] at hx
    rcases hx with rfl; exact .inl rfl
  · intro L s FF
    have F := FF.toFrm
    have K := FF.toEnvOk
    have hc : CallTo c (n + 20) (.ref 45) [.flt x, .flt y, .flt z] (.tup [.flt (hsvOf x y z).h, .flt (hsvOf x y z).s, .flt (hsvOf x y z).v]) := call_hsv G (n := n + 19) k1
    refine Ex.assignT (by walk_at "mE") (Tgt.tuple (Tgts.cons F (by walk_at "mN") (Tgts.cons F (by walk_at "mN") Tgts.nil))) ?_
    refine Ex.assignT (by walk_at "mE") (Tgt.tuple (Tgts.cons F (by walk_at "mN") (Tgts.cons F (by walk_at "mN") (Tgts.cons F (by walk_at "mN") Tgts.nil)))) ?_
    refine Ex.assign (d := .int (lSpan x y z)) F (by walk_at "mN") (Ev.cast (by walk_at "mE") (by rfl)) ?_
    refine Ex.assign (d := .int (lUnit x y z)) F (by walk_at "mN") (Ev.cast (by walk_at "mE") (by rfl)) ?_
    have h3 : Float64.isInf (Float64.ofInt 6) = false := by decide +kernel
    have k3' : Float64.isFinite (Float64.mul (Float64.mul (hsvOf x y z).h (Float64.ofInt 6)) (Float64.ofInt (lUnit x y z))) = true := k3
    refine Ex.assign (d := .int (lPlace x y z)) F (by walk_at "mN") (Ev.cast (by walk_at "mE") (by rfl)) ?_
    have hn : 6 * lUnit x y z ≠ 0 := by omega
    have hb : (6 * lUnit x y z).natAbs < 1073741824 := by omega
    refine Ex.assignC (cl := _) (outs := (lWays x y z).map D.int) F (by walk_at "mN") ⟨by rfl, by rfl, ?_, ?_, ?_⟩ (Src.rng (k := 3) (Ev.cast (by walk_at "mE") (by rfl))) (CRun.one [0, 1, 2] D.int (fun i => .int (lWay (lUnit x y z) (lPlace x y z) i)) ?_ ?_ ?_ ?_ ?_ ?_ ?_) ?_
    · decide
    · decide
    · walk_at "mK"
    · intro L; rfl
    · decide
    · rfl
    · decide
    · intro y _; rfl
    · intro y _; rfl
    · intro acc L s₀ F' y hy
      have K' := F'.toEnvOk
      have G' := G.own (a := acc)
      have hy' : y.natAbs < 2 ^ 64 := by
        simp only [List.mem_cons, List.not_mem_nil, or_false] at hy
        rcases hy with rfl | rfl | rfl <;> decide
      exact Ev.cast (by walk_at "mE") (by rfl)
    refine Ex.assignC (cl := _) (outs := ((lWays x y z).map (lDue (lBig (fmax3 x y z)) (lSpan x y z) (lUnit x y z))).map D.int) F (by walk_at "mN") ⟨by rfl, by rfl, ?_, ?_, ?_⟩ (Src.lst (by walk_at "mE")) (CRun.one (lWays x y z) D.int (fun i => .int (lDue (lBig (fmax3 x y z)) (lSpan x y z) (lUnit x y z) i)) ?_ ?_ ?_ ?_ ?_ ?_ ?_) ?_
    · decide
    · decide
    · walk_at "mK"
    · intro L; rfl
    · decide
    · rfl
    · show 3 ≤ 1000; decide
    · intro y _; rfl
    · intro y _; rfl
    · intro acc L s₀ F' y hy
      have K' := F'.toEnvOk
      have G' := G.own (a := acc)
      exact Ev.cast (by walk_at "mE") (by rfl)
    refine Ex.if_ (b := false) ?_ (fun h => by cases h) (fun _ => ?_)
    · refine Tru.cast (Tru.boolOp (Trus.or_cons (Tru.cmp (by walk_at "mE") (by walk_at "mE") (Cmp.neT k11 k12)) fun _ => Trus.or_cons (Tru.cmp (Ev.comp (cl := _) (outs := ([x, y, z].map lBig).map D.int) K F.apart ⟨by rfl, by rfl, ?_, ?_, ?_⟩ (Src.lst (by walk_at "mE")) (CRun.one [x, y, z] D.flt (fun i => .int (lBig i)) ?_ ?_ ?_ ?_ ?_ ?_ ?_)) (by walk_at "mE") (Cmp.neL (by omega))) fun _ => Trus.or_nil)) ?_
      · decide
      · decide
      · walk_at "mK"
      · intro L; rfl
      · decide
      · rfl
      · show 3 ≤ 1000; decide
      · intro y _; rfl
      · intro y _; rfl
      · intro acc L s₀ F' q hq
        have K' := F'.toEnvOk
        have G' := G.own (a := acc)
        have hfin : Float64.isFinite (Float64.mul (Float64.ofInt 64) q) = true := by
          simp only [List.mem_cons, List.not_mem_nil, or_false] at hq
          rcases hq with rfl | rfl | rfl <;> assumption
        exact Ev.cast (by walk_at "mE") (by rfl)
      · rw [k13]; simp
    refine Ex.nil fun s' S => ⟨_, S, ?_⟩
    refine Ex.if_ (b := false) ?_ (fun h => by cases h) (fun _ => ?_)
    · have i20 : Float64.isInf (Float64.ofInt (2 ^ Int.toNat 20)) = false := by decide +kernel
      have k14' : Float64.isFinite (Float64.mul (Float64.mul (Float64.mul (hsvOf x y z).h (Float64.ofInt 6)) (Float64.ofInt (lUnit x y z))) (Float64.ofInt (2 ^ Int.toNat 20))) = true := k14
      refine Tru.cast (by walk_at "mT") ?_
      have e1 : fround (Float64.mul (Float64.mul (Float64.mul (hsvOf x y z).h (Float64.ofInt 6)) (Float64.ofInt (lUnit x y z))) (Float64.ofInt (2 ^ Int.toNat 20))) = lPlace x y z * 2 ^ Int.toNat 20 := k15
      rw [e1]
      simp [k16.1, k16.2.1]
      omega
    refine Ex.nil fun s' S => ⟨_, S, ?_⟩
    refine Ex.back ?_
    have hm : (lWays x y z).map D.int = [.int (lWay (lUnit x y z) (lPlace x y z) 0), .int (lWay (lUnit x y z) (lPlace x y z) 1), .int (lWay (lUnit x y z) (lPlace x y z) 2)] := rfl
    have hix : CallTo c (n + 20) (.builtin "list.index") [.lst Option.none ((lWays x y z).map D.int), .int (imin3 (lWay (lUnit x y z) (lPlace x y z) 0) (lWay (lUnit x y z) (lPlace x y z) 1) (lWay (lUnit x y z) (lPlace x y z) 2))] (.int j) :=
      CallTo.index k18 (fun m hm => by
        have := List.all_eq_true.mp k19 m (List.mem_range.mpr hm)
        simpa using this) (by omega)
    have hmin : CallTo c (n + 20) (.builtin "min") [.lst Option.none ((lWays x y z).map D.int)] (.int (imin3 (lWay (lUnit x y z) (lPlace x y z) 0) (lWay (lUnit x y z) (lPlace x y z) 1) (lWay (lUnit x y z) (lPlace x y z) 2))) := by
      rw [hm]; exact CallTo.minI
    refine Ev.itm Ev.str (Ev.meth m_index KindIs.lst (by walk_at "mE") (Evs.cons (Ev.call K rfl (g_min G) (.inl ⟨_, rfl⟩) (Evs.cons (by walk_at "mE") Evs.nil) hmin) Evs.nil) hix) Getter.str ?_
    refine Itm.str (by omega) (by omega) ?_ ?_
    · show (j : Int) < ((3 : Nat) : Int); omega
    · match j, k17 with
      | 0, _ => rfl
      | 1, _ => rfl
      | 2, _ => rfl

/-- the size of a number with i noughts at its low end; 6: of nought -/
def sz (i : Nat) : UInt64 := [0x3FF0000000000000, 0x3FE0000000000000, 0x3FD0000000000000, 0x3FC0000000000000, 0x3FB0000000000000, 0x3FA0000000000000].getD i 0
def lIx (i j k : Nat) : Nat := if i ≤ j ∧ i ≤ k then 0 else if j ≤ k then 1 else 2
def okRow (i j : Nat) : Bool := (List.range 6).all fun k => letterOk (sz i) (sz j) (sz k) (lIx i j k)
theorem okRow0 : (List.range 7).all (okRow 0) = true := by decide +kernel
theorem okRow1 : (List.range 7).all (okRow 1) = true := by decide +kernel
theorem okRow2 : (List.range 7).all (okRow 2) = true := by decide +kernel
theorem okRow3 : (List.range 7).all (okRow 3) = true := by decide +kernel
theorem okRow4 : (List.range 7).all (okRow 4) = true := by decide +kernel
theorem okRow5 : (List.range 7).all (okRow 5) = true := by decide +kernel
theorem okRow6 : (List.range 7).all (okRow 6) = true := by decide +kernel
theorem letter_all {i j k : Nat} (hi : i ≤ 6) (hj : j ≤ 6) (hk : k ≤ 5) : letterOk (sz i) (sz j) (sz k) (lIx i j k) = true := by
  have row : (List.range 7).all (okRow i) = true := by
    match i, hi with
    | 0, _ => exact okRow0
    | 1, _ => exact okRow1
    | 2, _ => exact okRow2
    | 3, _ => exact okRow3
    | 4, _ => exact okRow4
    | 5, _ => exact okRow5
    | 6, _ => exact okRow6
  have := List.all_eq_true.mp row j (List.mem_range.mpr (by omega))
  exact List.all_eq_true.mp this k (List.mem_range.mpr (by omega))

/-! ## _digits2int -/
def dval (n : Nat) : List Int → Int
  | [] => 0
  | d :: r => d + 2 ^ n * dval n r
theorem dval_append (n : Nat) (a b : List Int) : dval n (a ++ b) = dval n a + 2 ^ (n * a.length) * dval n b := by
  induction a with
  | nil => simp [dval]
  | cons d r ih =>
    rw [List.cons_append, dval, ih, dval, List.length_cons, Nat.mul_add, Nat.mul_one, Int.pow_add, Int.mul_add, Int.add_assoc, Int.mul_comm (2 ^ (n * r.length)) (2 ^ n), Int.mul_assoc]
theorem dval_nonneg (n : Nat) (l : List Int) (h : ∀ d ∈ l, 0 ≤ d) : 0 ≤ dval n l := by
  induction l with
  | nil => simp [dval]
  | cons d r ih =>
    rw [dval]
    have h1 := h d (by simp)
    have h2 := ih fun d hd => h d (by simp [hd])
    have h3 : (0 : Int) ≤ 2 ^ n * dval n r := Int.mul_nonneg (Int.le_of_lt (Int.pow_pos (by omega))) h2
    omega
theorem dval_lt (n : Nat) (l : List Int) (h : ∀ d ∈ l, 0 ≤ d ∧ d < 2 ^ n) : dval n l < 2 ^ (n * l.length) := by
  induction l with
  | nil => simp [dval]
  | cons d r ih =>
    rw [dval, List.length_cons, Nat.mul_add, Nat.mul_one, Int.pow_add]
    have h1 := h d (by simp)
    have h2 := ih fun d hd => h d (by simp [hd])
    have h3 : (0 : Int) < 2 ^ n := Int.pow_pos (by omega)
    have h4 : (2 : Int) ^ n * (dval n r + 1) ≤ 2 ^ n * 2 ^ (n * r.length) := Int.mul_le_mul_of_nonneg_left (by omega) (Int.le_of_lt h3)
    rw [Int.mul_add, Int.mul_one, Int.mul_comm (2 ^ n) (2 ^ (n * r.length))] at h4
    omega
def cut (ds : List Int) (l r : Nat) : List Int := (ds.drop l).take (r - l)
theorem cut_cut (ds : List Int) {l m r : Nat} (h1 : l ≤ m) (h2 : m ≤ r) : cut ds l r = cut ds l m ++ cut ds m r := by
  unfold cut
  have e : r - l = (m - l) + (r - m) := by omega
  rw [e, List.take_add, List.drop_drop]
  congr 3
  omega
theorem cut_length (ds : List Int) {l r : Nat} (h1 : l ≤ r) (h2 : r ≤ ds.length) : (cut ds l r).length = r - l := by
  unfold cut
  rw [List.length_take, List.length_drop]
  omega
theorem cut_mem {ds : List Int} {l r : Nat} {d : Int} (h : d ∈ cut ds l r) : d ∈ ds := List.mem_of_mem_drop (List.mem_of_mem_take h)

theorem call_d2i {c : Cx} (G : Good c) {n : Nat} {ds : List Int} {nn : Nat} (hds : ∀ d ∈ ds, 0 ≤ d ∧ d < 2 ^ nn) (hne : ds ≠ []) (hz : nn * ds.length ≤ 60) (hl : ds.length ≤ 60) (hnn : nn ≤ 60) : CallTo c (n + 70) (.ref 73) [.lst Option.none (ds.map D.int), .int nn] (.int (dval nn ds)) := by
  refine CallTo.fn [Str.ofString "digits", Str.ofString "n"] (FnOk.of (by rw [G.K]; rfl) rfl (by rw [G.K]; rfl) rfl rfl rfl rfl rfl rfl rfl rfl rfl) rfl ?_ ?_ ?_ ?_ ?_
  · intro vs h
    match vs, h with
    | [a, b], _ => rfl
  · decide
  · decide
  · intro x hx
    simp only [List.mem_cons, List.not_mem_nil, or_false] at hx
    rcases hx with rfl | rfl <;> exact .inr ⟨rfl, fun _ => rfl⟩
  · intro L s FF
    have F := FF.toFrm
    have K := FF.toEnvOk
    refine Ex.def_ (t := tab2) (cd := 72) F (by walk_at "mN") (def2 G) rfl rfl rfl (by rfl) ?_
    intro fd hm
    obtain ⟨doc, pm, cdv, ctv, hfd⟩ := hm.is
    have inn : ∀ k : Nat, ∀ l r : Nat, l < r → r ≤ ds.length → r - l ≤ k → CloTo c (n + k) fd [(Str.ofString "digits", .lst Option.none (ds.map D.int)), (Str.ofString "inner", .fn fd), (Str.ofString "n", .int nn)] [.int l, .int r] (.int (dval nn (cut ds l r))) := by
      intro k
      induction k with
      | zero => intro l r h1 h2 h3; omega
      | succ k ih =>
        intro l r h1 h2 h3
        refine CloTo.of (n := n + k) (fd := fd) [Str.ofString "L", Str.ofString "R"] (by subst hfd; exact ⟨rfl, rfl, rfl, rfl, rfl, rfl, rfl⟩) ?_ rfl ?_ (by decide) (by decide) ?_ ?_ ?_
        · subst hfd
          exact ap_of F.apart ⟨rfl, rfl, rfl, trivial⟩
        · subst hfd
          intro vs h
          match vs, h with
          | [a, b], _ => rfl
        · subst hfd
          intro x hx
          simp only [List.mem_cons, List.not_mem_nil, or_false] at hx
          rcases hx with rfl | rfl <;> rfl
        · intro x d h hx
          simp only [List.mem_cons, List.not_mem_nil, or_false] at hx
          rcases hx with rfl | rfl <;> cases h
        · intro L' s' f F'
          have K' := F'.toEnvOk
          subst hfd
          refine Ex.if_ (by walk_at "mT") (fun h => ?_) (fun h => ?_)
          · have h' : l + 1 = r := by have : (l : Int) + 1 = r := by simpa using h
                                      omega
            have hget : (ds.map D.int)[((l : Int)).toNat]? = some (.int (dval nn (cut ds l r))) := by
              have hlt : l < ds.length := by omega
              have : cut ds l r = [ds[l]] := by
                unfold cut
                have : r - l = 1 := by omega
                rw [this, List.drop_eq_getElem_cons hlt]; rfl
              rw [this]
              simp [dval, hlt]
            refine Ex.ret (Ev.itm (by walk_at "mE") (by walk_at "mE") Getter.lst (Itm.lst (by omega) (by omega) hget)) fun v s' S r => ⟨v, rfl, S.stp, r⟩
          · have h' : l + 1 ≠ r := by have : ¬ (l : Int) + 1 = r := by simpa using h
                                      omega
            refine Ex.nil fun s'' S => ⟨_, S, ?_⟩
            have hm1 : l < (l + r) / 2 := by omega
            have hm2 : (l + r) / 2 < r := by omega
            refine Ex.assign (d := .int (((l + r) / 2 : Nat) : Int)) F' (by walk_at "mN") (Ev.cast (by walk_at "mE") ?_) ?_
            · have e : ((l : Int) + r).fdiv (2 ^ Int.toNat 1) = (((l + r) / 2 : Nat) : Int) := by
                rw [Int.fdiv_eq_ediv_of_nonneg _ (by decide)]
                show ((l : Int) + r) / 2 = _
                omega
              rw [e]
            have e2 : ((((l + r) / 2 : Nat) : Int) - l) * nn = ((((l + r) / 2 - l) * nn : Nat) : Int) := by
              rw [Int.natCast_mul]; congr 1; omega
            refine Ex.assign (d := .int ((((l + r) / 2 - l) * nn : Nat) : Int)) F' (by walk_at "mN") (Ev.cast (Ev.bin (by walk_at "mE") (by walk_at "mE") (Bin.mulI (by right; omega))) (by rw [e2])) ?_
            have i1 := ih ((l + r) / 2) r hm2 h2 (by omega)
            have i2 := ih l ((l + r) / 2) hm1 (by omega) (by omega)
            have hr : ∀ d ∈ cut ds ((l + r) / 2) r, 0 ≤ d ∧ d < 2 ^ nn := fun d hd => hds d (cut_mem hd)
            have v1 := dval_nonneg nn (cut ds ((l + r) / 2) r) fun d hd => (hr d hd).1
            have v2 := dval_lt nn (cut ds ((l + r) / 2) r) hr
            rw [cut_length ds (by omega) h2] at v2
            have hpow : (2 : Int) ^ (nn * (r - (l + r) / 2)) ≤ 2 ^ 60 := by
              have : nn * (r - (l + r) / 2) ≤ 60 := Nat.le_trans (Nat.mul_le_mul_left nn (by omega)) hz
              exact_mod_cast Nat.pow_le_pow_right (by omega) this
            have hsm : ((l + r) / 2 - l) * nn ≤ 60 := by
              rw [Nat.mul_comm]; exact Nat.le_trans (Nat.mul_le_mul_left nn (by omega)) hz
            refine Ex.back (Ev.cast (Ev.bin (Ev.bin (Ev.callClo K' rfl (Evs.cons (by walk_at "mE") (Evs.cons (by walk_at "mE") Evs.nil)) i1 ⟨⟨rfl, .inr rfl, rfl, rfl⟩, ⟨rfl, .inr rfl, rfl, rfl⟩, ⟨rfl, .inr rfl, rfl, rfl⟩, trivial⟩ ⟨rfl, rfl, rfl, trivial⟩) (by walk_at "mE") (Bin.shlI (by omega) (by omega) (by omega))) (Ev.callClo K' rfl (Evs.cons (by walk_at "mE") (Evs.cons (by walk_at "mE") Evs.nil)) i2 ⟨⟨rfl, .inr rfl, rfl, rfl⟩, ⟨rfl, .inr rfl, rfl, rfl⟩, ⟨rfl, .inr rfl, rfl, rfl⟩, trivial⟩ ⟨rfl, rfl, rfl, trivial⟩) Bin.addI) ?_)
            rw [cut_cut ds (Nat.le_of_lt hm1) (Nat.le_of_lt hm2), dval_append, cut_length ds (Nat.le_of_lt hm1) (by omega), Int.toNat_natCast, Nat.mul_comm nn]
            congr 1
            rw [Int.mul_comm, Int.add_comm]
    have i0 := inn ds.length 0 ds.length (List.length_pos_iff.mpr hne) (Nat.le_refl _) (by omega)
    have ecut : cut ds 0 ds.length = ds := by unfold cut; simp
    rw [ecut] at i0
    have hlen : CallTo c (n + 69) (.builtin "len") [.lst Option.none (ds.map D.int)] (.int ds.length) := by
      have := CallTo.len (c := c) (n := n + 69) (tg := Option.none) (ds := ds.map D.int) (by rw [List.length_map]; omega)
      rwa [List.length_map] at this
    have i0' : CloTo c (n + 69) fd [(Str.ofString "digits", .lst Option.none (ds.map D.int)), (Str.ofString "inner", .fn fd), (Str.ofString "n", .int nn)] [.int (0 : Nat), .int ds.length] (.int (dval nn ds)) :=
      fun A s vs f R => i0 A s vs f (R.le (by omega))
    subst hfd
    refine Ex.back (Ev.ifExp (b := true) (Tru.cast (Tru.value (by walk_at "mE") (Truthy.lst (by rw [List.length_map]; omega))) ?_) (fun _ => ?_) (fun h => by cases h))
    · cases ds with
      | nil => exact absurd rfl hne
      | cons _ _ => rfl
    · exact Ev.callClo K rfl (Evs.cons (Ev.cast Ev.int (by rfl)) (Evs.cons (Ev.call K rfl (g_len G) (.inl ⟨_, rfl⟩) (Evs.cons (by walk_at "mE") Evs.nil) hlen) Evs.nil)) i0' ⟨⟨rfl, .inl rfl, rfl, rfl⟩, ⟨rfl, .inl rfl, rfl, rfl⟩, ⟨rfl, .inl rfl, rfl, rfl⟩, trivial⟩ ⟨rfl, rfl, rfl, trivial⟩

/-! ## _int2digits -/
theorem m_bits : MethOk "int" "bit_length" "int.bit_length" := ⟨F.plainAttrs_int, F.slot_int_bit_length, F.type_int_bit_length⟩
def dig (nn : Nat) : Nat → Nat → List Int
  | 0, _ => []
  | k + 1, x => ((x % 2 ^ nn : Nat) : Int) :: dig nn k (x / 2 ^ nn)
theorem dig_length (nn : Nat) : ∀ k x, (dig nn k x).length = k
  | 0, _ => rfl
  | k + 1, x => by rw [dig, List.length_cons, dig_length nn k]
theorem dig_split (nn : Nat) (b : Nat) : ∀ a x, dig nn (a + b) x = dig nn a (x % 2 ^ (nn * a)) ++ dig nn b (x / 2 ^ (nn * a))
  | 0, x => by simp [dig]
  | a + 1, x => by
    have e1 : a + 1 + b = (a + b) + 1 := by omega
    have e2 : nn * (a + 1) = nn + nn * a := by rw [Nat.mul_add, Nat.mul_one, Nat.add_comm]
    rw [e1, dig, dig, List.cons_append, dig_split nn b a (x / 2 ^ nn), e2, Nat.pow_add, Nat.mod_mul_right_mod, Nat.mod_mul_right_div_self, Nat.div_div_eq_div_mul]
theorem xor_low (x s : Nat) : Builtin.bitXor (x : Int) (((x / 2 ^ s : Nat) : Int) * 2 ^ s) = ((x % 2 ^ s : Nat) : Int) := by
  have e : ((x / 2 ^ s : Nat) : Int) * 2 ^ s = ((x / 2 ^ s * 2 ^ s : Nat) : Int) := by simp
  rw [e, bitXor_and, bitAnd_pp (by omega) (by omega), Int.toNat_natCast, Int.toNat_natCast]
  have h : x &&& (x / 2 ^ s * 2 ^ s) = x / 2 ^ s * 2 ^ s := by
    rw [← Nat.shiftRight_eq_div_pow, ← Nat.shiftLeft_eq]
    apply Nat.eq_of_testBit_eq
    intro i
    rw [Nat.testBit_and, Nat.testBit_shiftLeft, Nat.testBit_shiftRight]
    by_cases hi : s ≤ i
    · have : s + (i - s) = i := by omega
      simp [hi, this]
    · simp [hi]
  rw [h]
  have := Nat.div_add_mod x (2 ^ s)
  rw [Nat.mul_comm] at this
  omega
def lay (ds : List Int) (l r : Nat) (new : List Int) : List Int := ds.take l ++ new ++ ds.drop r
theorem lay_length {ds new : List Int} {l r : Nat} (h1 : l ≤ r) (h2 : r ≤ ds.length) (h3 : new.length = r - l) : (lay ds l r new).length = ds.length := by
  unfold lay
  simp only [List.length_append, List.length_take, List.length_drop, h3]
  omega
theorem lay_lay {ds a b : List Int} {l m r : Nat} (h1 : l ≤ m) (h2 : m ≤ r) (h3 : r ≤ ds.length) (h4 : a.length = m - l) : lay (lay ds l m a) m r b = lay ds l r (a ++ b) := by
  unfold lay
  have e1 : (ds.take l ++ a).length = m := by rw [List.length_append, List.length_take, h4]; omega
  rw [List.take_append_of_le_length (by omega), List.take_of_length_le (by omega)]
  rw [List.drop_append, e1, List.drop_of_length_le (by omega), List.nil_append, List.drop_drop]
  have : m + (r - m) = r := by omega
  rw [this, List.append_assoc (ds.take l) a b]
theorem lay_set {ds : List Int} {l : Nat} {v : Int} (h : l < ds.length) : ds.set l v = lay ds l (l + 1) [v] := by
  unfold lay
  rw [List.set_eq_take_append_cons_drop, if_pos h, List.append_assoc]; rfl

theorem call_i2d {c : Cx} (G : Good c) {n a nn k : Nat} (ha : a < 2 ^ 60) (hnn : 1 ≤ nn) (hnn' : nn ≤ 60) (hk : k = (Builtin.Int.intBits a + nn - 1) / nn) (hbig : nn * k ≤ 120) : CallTo c (n + 70) (.ref 66) [.int a, .int nn] (.lst Option.none ((dig nn k a).map D.int)) := by
  have hbits : Builtin.Int.intBits (a : Int) ≤ 60 := PyProof.Rows.intBits_le (by simpa using ha)
  have hk60 : k ≤ 60 := by
    rw [hk]
    refine Nat.le_trans (Nat.div_le_div_right (c := nn) (b := 60 * nn) ?_) (by rw [Nat.mul_div_cancel _ (by omega)]; exact Nat.le_refl _)
    have : 60 * nn = 60 + 60 * (nn - 1) := by omega
    omega
  have hak : a < 2 ^ (nn * k) := by
    have h1 : a < 2 ^ Builtin.Int.intBits (a : Int) := by
      have := (PySem.intBits_le_iff (m := Builtin.Int.intBits (a : Int)) (x := (a : Int))).mp (Nat.le_refl _)
      simpa using this
    refine Nat.lt_of_lt_of_le h1 (Nat.pow_le_pow_right (by omega) ?_)
    have := Nat.div_add_mod (Builtin.Int.intBits (a : Int) + nn - 1) nn
    have h2 := Nat.mod_lt (Builtin.Int.intBits (a : Int) + nn - 1) (show nn > 0 by omega)
    rw [← hk] at this
    omega
  refine CallTo.fn [Str.ofString "a", Str.ofString "n"] (FnOk.of (by rw [G.K]; rfl) rfl (by rw [G.K]; rfl) rfl rfl rfl rfl rfl rfl rfl rfl rfl) rfl ?_ ?_ ?_ ?_ ?_
  · intro vs h
    match vs, h with
    | [a, b], _ => rfl
  · decide
  · decide
  · intro x hx
    simp only [List.mem_cons, List.not_mem_nil, or_false] at hx
    rcases hx with rfl | rfl
    · exact .inl rfl
    · exact .inr ⟨rfl, fun _ => rfl⟩
  · intro L s FF
    have F := FF.toFrm
    have K := FF.toEnvOk
    have e1 : ((Builtin.Int.intBits (a : Int) : Nat) : Int) + nn - 1 = ((Builtin.Int.intBits (a : Int) + nn - 1 : Nat) : Int) := by omega
    have e2 : (((Builtin.Int.intBits (a : Int) : Nat) : Int) + nn - 1).fdiv nn = (k : Int) := by
      rw [e1, hk, Int.fdiv_eq_ediv_of_nonneg _ (by omega)]; rfl
    refine Ex.own F (by walk_at "mN") (EvF.mul Ev.int (Ev.cast (Ev.bin (Ev.bin (Ev.bin (Ev.meth m_bits KindIs.int (by walk_at "mE") Evs.nil CallTo.bits) (by walk_at "mE") Bin.addI) Ev.int Bin.subI) (by walk_at "mE") (Bin.divI (by omega) (by omega))) (by rw [e2])) (by omega)) (by
      have : ∀ k : Nat, D.flats (List.replicate k (D.int 0)) = true := by
        intro k
        induction k with
        | zero => simp [D.flats]
        | succ k ih => rw [List.replicate_succ, D.flats, ih]; simp [D.flat]
      exact this k) ?_
    intro al hal halX
    have ez : List.replicate k (D.int 0) = (List.replicate k (0 : Int)).map D.int := by rw [List.map_replicate]
    rw [ez]
    refine Ex.def_ (c := c.own al) (t := tab1) (cd := 65) F.own (by walk_at "mN") (def1 G.own) rfl rfl rfl (by rfl) ?_
    intro fd hm
    obtain ⟨doc, pm, cdv, ctv, hfd⟩ := hm.is
    have inn : ∀ m l r x : Nat, ∀ ds : List Int, l < r → r ≤ ds.length → ds.length ≤ 60 → r - l ≤ m → x < 2 ^ (nn * (r - l)) → x < 2 ^ 60 →
        MutTo c s al (n + m) fd "a_digits" [(Str.ofString "inner", .fn fd), (Str.ofString "n", .int nn)] [.int x, .int l, .int r] ds (lay ds l r (dig nn (r - l) x)) := by
      intro m
      induction m with
      | zero => intro l r x ds h1 h2 h3 h4; omega
      | succ m ih =>
        intro l r x ds h1 h2 h3 h4 h5 h6
        refine MutTo.of (n := n + m) F.base [Str.ofString "x", Str.ofString "L", Str.ofString "R"] (by subst hfd; exact ⟨rfl, rfl, rfl, rfl, rfl, rfl, rfl⟩) ?_ rfl ?_ (by decide) (by decide) ?_ ?_ ?_
        · subst hfd
          exact ap_of F.apart ⟨rfl, rfl, rfl, trivial⟩
        · subst hfd
          intro vs h
          match vs, h with
          | [a, b, c], _ => rfl
        · subst hfd
          intro x hx
          simp only [List.mem_cons, List.not_mem_nil, or_false] at hx
          rcases hx with rfl | rfl | rfl <;> rfl
        · intro x d h hx
          simp only [List.mem_cons, List.not_mem_nil, or_false] at hx
          rcases hx with rfl | rfl | rfl <;> cases h
        · intro L' f F'
          have K' := F'.toEnvOk
          subst hfd
          refine Ex.if_ (by walk_at "mT") (fun h => ?_) (fun h => ?_)
          · have h' : l + 1 = r := by
              have : (l : Int) + 1 = r := by simpa using h
              omega
            subst h'
            have e : lay ds l (l + 1) (dig nn (l + 1 - l) x) = ds.set l (x : Int) := by
              rw [lay_set (by omega)]
              have e3 : l + 1 - l = 1 := by omega
              rw [e3] at h5 ⊢
              rw [dig, dig, Nat.mod_eq_of_lt (by simpa using h5)]
            rw [e]
            refine Ex.setItem (ρ' := []) F' hal rfl (.inr rfl) (by walk_at "mE") (by walk_at "mE") (by omega) (by omega) (fun _ _ h => nomatch h) VPlain.nil ?_
            refine Ex.retNone fun s'' S => ⟨.inr rfl, S.mst (x := "a_digits") rfl⟩
          · have h' : l + 1 ≠ r := by
              have : ¬ (l : Int) + 1 = r := by simpa using h
              omega
            refine Ex.nil fun s'' S => ⟨_, S, ?_⟩
            generalize hmid : (l + r) / 2 = mid
            have hm1 : l < mid := by omega
            have hm2 : mid < r := by omega
            have hsm : (mid - l) * nn ≤ 3600 := Nat.le_trans (Nat.mul_le_mul (show mid - l ≤ 60 by omega) hnn') (by decide)
            refine Ex.assign (d := .int (mid : Int)) F'.own (by walk_at "mN") (Ev.cast (by walk_at "mE") ?_) ?_
            · have e : ((l : Int) + r).fdiv (2 ^ Int.toNat 1) = (mid : Int) := by
                rw [Int.fdiv_eq_ediv_of_nonneg _ (by decide)]
                show ((l : Int) + r) / 2 = _
                omega
              rw [e]
            have e2 : ((mid : Int) - l) * nn = (((mid - l) * nn : Nat) : Int) := by
              rw [Int.natCast_mul]; congr 1; omega
            refine Ex.assign (d := .int (((mid - l) * nn : Nat) : Int)) F'.own (by walk_at "mN") (Ev.cast (Ev.bin (by walk_at "mE") (by walk_at "mE") (Bin.mulI (by right; omega))) (by rw [e2])) ?_
            have e3 : (x : Int).fdiv (2 ^ (((mid - l) * nn : Nat) : Int).toNat) = ((x / 2 ^ ((mid - l) * nn) : Nat) : Int) := by
              rw [Int.toNat_natCast, Int.fdiv_eq_ediv_of_nonneg _ (Int.le_of_lt (Int.pow_pos (by omega)))]
              simp
            refine Ex.assign (d := .int ((x / 2 ^ ((mid - l) * nn) : Nat) : Int)) F'.own (by walk_at "mN") (Ev.cast (Ev.bin (by walk_at "mE") (by walk_at "mE") (Bin.shrI (by omega))) (by rw [e3])) ?_
            have hup : x / 2 ^ ((mid - l) * nn) ≤ x := Nat.div_le_self _ _
            have e4 : Builtin.bitXor (x : Int) (((x / 2 ^ ((mid - l) * nn) : Nat) : Int) * 2 ^ (((mid - l) * nn : Nat) : Int).toNat) = ((x % 2 ^ ((mid - l) * nn) : Nat) : Int) := by
              rw [Int.toNat_natCast]; exact xor_low x _
            refine Ex.assign (d := .int ((x % 2 ^ ((mid - l) * nn) : Nat) : Int)) F'.own (by walk_at "mN") (Ev.cast (Ev.bin (by walk_at "mE") (Ev.bin (by walk_at "mE") (by walk_at "mE") (Bin.shlI (by omega) (by omega) (by rw [Int.natAbs_natCast]; omega))) Bin.xorI) (by rw [e4])) ?_
            have hmul : nn * (mid - l) = (mid - l) * nn := Nat.mul_comm _ _
            have hlo : x % 2 ^ ((mid - l) * nn) < 2 ^ (nn * (mid - l)) := by rw [hmul]; exact Nat.mod_lt _ (Nat.pow_pos (by omega))
            have hlo' : x % 2 ^ ((mid - l) * nn) ≤ x := Nat.mod_le _ _
            have hhi : x / 2 ^ ((mid - l) * nn) < 2 ^ (nn * (r - mid)) := by
              rw [Nat.div_lt_iff_lt_mul (Nat.pow_pos (by omega)), ← Nat.pow_add]
              refine Nat.lt_of_lt_of_le h5 (Nat.pow_le_pow_right (by omega) ?_)
              rw [← hmul, ← Nat.mul_add]
              exact Nat.mul_le_mul_left _ (by omega)
            have len1 : (lay ds l mid (dig nn (mid - l) (x % 2 ^ ((mid - l) * nn)))).length = ds.length := lay_length (by omega) (by omega) (dig_length _ _ _)
            have i1 := ih l mid (x % 2 ^ ((mid - l) * nn)) ds hm1 (by omega) h3 (by omega) hlo (by omega)
            have i2 := ih mid r (x / 2 ^ ((mid - l) * nn)) (lay ds l mid (dig nn (mid - l) (x % 2 ^ ((mid - l) * nn)))) hm2 (by omega) (by omega) (by omega) hhi (by omega)
            have efin : lay (lay ds l mid (dig nn (mid - l) (x % 2 ^ ((mid - l) * nn)))) mid r (dig nn (r - mid) (x / 2 ^ ((mid - l) * nn))) = lay ds l r (dig nn (r - l) x) := by
              rw [lay_lay (by omega) (by omega) h2 (dig_length _ _ _)]
              have : r - l = (mid - l) + (r - mid) := by omega
              rw [this, dig_split, hmul]
            rw [efin] at i2
            refine Ex.callMut (ρ' := [(Str.ofString "upper", .int ((x / 2 ^ ((mid - l) * nn) : Nat) : Int)), (Str.ofString "mid", .int (mid : Int)), (Str.ofString "R", .int (r : Int)), (Str.ofString "inner", .fn _), (Str.ofString "n", .int nn)]) F' rfl rfl (.inr rfl) (Evs.cons (by walk_at "mE") (Evs.cons (by walk_at "mE") (Evs.cons (by walk_at "mE") Evs.nil))) i1 ⟨⟨rfl, .inr rfl, rfl, rfl⟩, ⟨rfl, .inr rfl, rfl, rfl⟩, ⟨rfl, .inr rfl, rfl, rfl⟩, trivial⟩ ⟨rfl, rfl, rfl, trivial⟩ (SubV.look ⟨rfl, rfl, rfl, rfl, rfl, trivial⟩) (.cons (.cons (.cons (.cons (.cons .nil rfl) rfl) rfl) rfl) rfl) ?_
            refine Ex.callMut (ρ' := []) F' rfl rfl (.inr rfl) (Evs.cons (by walk_at "mE") (Evs.cons (by walk_at "mE") (Evs.cons (by walk_at "mE") Evs.nil))) i2 ⟨⟨rfl, .inr rfl, rfl, rfl⟩, ⟨rfl, .inr rfl, rfl, rfl⟩, ⟨rfl, .inr rfl, rfl, rfl⟩, trivial⟩ ⟨rfl, rfl, rfl, trivial⟩ (fun _ _ h => nomatch h) .nil ?_
            exact Ex.nil fun s'' S => ⟨.inl rfl, S.mst (x := "a_digits") rfl⟩
    have hlen : CallTo (c.own al) (n + 69) (.builtin "len") [.lst (some al) ((List.replicate k (0 : Int)).map D.int)] (.int k) := by
      have := CallTo.len (c := c.own al) (n := n + 69) (tg := some al) (ds := (List.replicate k (0 : Int)).map D.int) (by simp; omega)
      simpa using this
    have i0 : ∀ x : Nat, 0 < k → x < 2 ^ (nn * k) → x < 2 ^ 60 → MutTo c s al (n + 69) fd "a_digits" [(Str.ofString "inner", .fn fd), (Str.ofString "n", .int nn)] [.int x, .int (0 : Nat), .int k] (List.replicate k (0 : Int)) (dig nn k x) := by
      intro x hk0 hx hx'
      have := inn k 0 k x (List.replicate k (0 : Int)) hk0 (by simp) (by simpa using hk60) (by omega) (by simpa using hx) hx'
      have e : lay (List.replicate k (0 : Int)) 0 k (dig nn (k - 0) x) = dig nn k x := by
        unfold lay; simp
      rw [e] at this
      exact fun A s vs f R => this A s vs f (R.le (by omega))
    subst hfd
    refine Ex.if_ (b := ((a : Int) != 0)) (by walk_at "mT") (fun h => ?_) (fun h => ?_)
    · have h0 : 0 < k := by
        rcases Nat.eq_zero_or_pos k with q | q
        · subst q
          have : (a : Int) ≠ 0 := by simpa using h
          simp at hak; omega
        · exact q
      refine Ex.callMut (ρ' := []) F rfl rfl (.inl rfl) (Evs.cons (by walk_at "mE") (Evs.cons (Ev.cast Ev.int (by rfl)) (Evs.cons (Ev.call K rfl (g_len G.own) (.inl ⟨_, rfl⟩) (Evs.cons (by walk_at "mE") Evs.nil) hlen) Evs.nil))) (i0 a h0 hak ha) ⟨⟨rfl, .inl rfl, rfl, rfl⟩, ⟨rfl, .inl rfl, rfl, rfl⟩, ⟨rfl, .inl rfl, rfl, rfl⟩, trivial⟩ ⟨rfl, rfl, rfl, trivial⟩ (fun _ _ h => nomatch h) .nil ?_
      refine Ex.nil fun s'' S => ⟨_, S, ?_⟩
      refine Ex.disown (x := "a_digits") (ρ' := []) halX rfl (fun _ _ h => nomatch h) ?_
      exact Ex.back (by walk_at "mE")
    · have h0 : a = 0 := by
        have : (a : Int) = 0 := by simpa using h
        omega
      have hk0 : k = 0 := by
        rw [hk, h0]
        show (0 + nn - 1) / nn = 0
        exact Nat.div_eq_of_lt (by omega)
      refine Ex.nil fun s'' S => ⟨_, S, ?_⟩
      refine Ex.disown (x := "a_digits") (ρ' := []) halX rfl (fun _ _ h => nomatch h) ?_
      subst hk0
      exact Ex.back (Ev.cast (by walk_at "mE") (by rfl))

/-! ## _law_sizes -/
def tzc (x : Nat) : Nat := if x % 2 = 1 then 0 else if x % 4 = 2 then 1 else if x % 8 = 4 then 2 else if x % 16 = 8 then 3 else if x % 32 = 16 then 4 else if x % 64 = 32 then 5 else 6
def bitsOf (x : Nat) : List Int := dig 1 (Builtin.Int.intBits x) x
def tzOk (x : Nat) : Bool := x == 0 || (decide ((bitsOf x)[tzc x]? = some 1) && (List.range (tzc x)).all (fun m => decide ((bitsOf x)[m]? ≠ some 1)) && decide (idiv 1 (2 ^ tzc x) = sz (tzc x)) && decide (tzc x ≤ 5) && !Float64.isInf (idiv 1 (2 ^ tzc x)))
theorem tz_all : (List.range 64).all tzOk = true := by decide +kernel
theorem tz_get {x : Nat} (h : x < 64) (h0 : x ≠ 0) : (bitsOf x)[tzc x]? = some 1 ∧ (∀ m, m < tzc x → (bitsOf x)[m]? ≠ some 1) ∧ idiv 1 (2 ^ tzc x) = sz (tzc x) ∧ tzc x ≤ 5 ∧ Float64.isInf (idiv 1 (2 ^ tzc x)) = false := by
  have := List.all_eq_true.mp tz_all x (List.mem_range.mpr h)
  unfold tzOk at this
  have hx : (x == 0) = false := by simpa using h0
  rw [hx, Bool.false_or] at this
  simp only [Bool.and_eq_true, decide_eq_true_eq, Bool.not_eq_true'] at this
  obtain ⟨⟨⟨⟨h1, h2⟩, h3⟩, h4⟩, h5⟩ := this
  exact ⟨h1, fun m hm => by simpa using List.all_eq_true.mp h2 m (List.mem_range.mpr hm), h3, h4, h5⟩

theorem call_sizes {c : Cx} (G : Good c) {n : Nat} {x y z : Nat} (hx : x < 64) (hy : y < 64) (hz : z < 64) :
    CallTo c (n + 80) (.ref 229) [.tup [.int x, .int y, .int z]] (.lst Option.none [.flt (sz (tzc x)), .flt (sz (tzc y)), .flt (sz (tzc z))]) := by
  refine CallTo.fn [Str.ofString "point"] (FnOk.of (by rw [G.K]; rfl) rfl (by rw [G.K]; rfl) rfl rfl rfl rfl rfl rfl rfl rfl rfl) rfl ?_ ?_ ?_ ?_ ?_
  · intro vs h
    match vs, h with
    | [a], _ => rfl
  · decide
  · decide
  · intro x hx
    simp only [List.mem_cons, List.not_mem_nil, or_false] at hx
    rcases hx with rfl; exact .inl rfl
  · intro L s FF
    have F := FF.toFrm
    have K := FF.toEnvOk
    refine Ex.own F (by walk_at "mN") (EvF.list Evs.nil) rfl ?_
    intro al hal halX
    refine Ex.for_ (c := c.own al) (ds := [x, y, z].map fun v => D.int (v : Nat)) F.own
      (fun ds ρ₁ => ∃ rest out : List Nat, ds = rest.map (fun v => D.int (v : Nat)) ∧ (∀ v ∈ rest, v < 64) ∧ ρ₁.lookup (Str.ofString "sizes") = some (D.lst (some al) (out.map fun v => D.flt (sz (tzc v)))) ∧ out ++ rest = [x, y, z])
      (Src.tup (by walk_at "mE")) ⟨[x, y, z], [], rfl, by simp [hx, hy, hz], rfl, rfl⟩ ?_ ?_ (by simp [D.plains, D.plain])
    · rintro d ds ρ₁ ⟨rest, out, hd, hlt, hs, hf⟩
      cases rest with
      | nil => cases hd
      | cons v rest =>
        cases hd
        refine ⟨_, Tgt.name F.own NmOk.loc, ?_⟩
        have hv : v < 64 := hlt v (by simp)
        refine Ex.less (ρ' := [(Str.ofString "x", .int (v : Nat)), (Str.ofString "sizes", .lst (some al) (out.map fun v => D.flt (sz (tzc v))))]) ?_ (SubV.look ⟨rfl, hs, trivial⟩)
        have hbl : Builtin.Int.intBits (v : Int) ≤ 6 := PyProof.Rows.intBits_le (by simpa using hv)
        have hc : CallTo (c.own al) (n + 79) (.ref 66) [.int v, .int (1 : Nat)] (.lst Option.none ((bitsOf v).map D.int)) :=
          call_i2d G.own (n := n + 9) (Nat.lt_of_lt_of_le hv (by decide)) (Nat.le_refl _) (by decide) (by simp) (by omega)
        refine Ex.assign F.own (by walk_at "mN") (Ev.call K rfl (g_i2d G.own) (callee_of G.own rfl) (Evs.cons (by walk_at "mE") (Evs.cons (Ev.cast Ev.int (by rfl)) Evs.nil)) hc) ?_
        have hlen : out.length ≤ 3 := by
          have := congrArg List.length hf
          simp at this; omega
        refine Ex.append (d := .flt (sz (tzc v))) (ρ' := []) F hal rfl (Ev.ifExp (b := ((v : Int) != 0)) (by walk_at "mT") (fun h => ?_) (fun h => ?_)) rfl ?_ (by simp; omega) (fun _ _ h => nomatch h) (fun _ _ h => nomatch h) ?_
        · have h0 : v ≠ 0 := by
            have : (v : Int) ≠ 0 := by simpa using h
            omega
          obtain ⟨t1, t2, t3, t4, t5⟩ := tz_get hv h0
          have hp : (2 : Int) ^ ((tzc v : Nat) : Int).toNat = 2 ^ tzc v := by rw [Int.toNat_natCast]
          refine Ev.cast (Ev.bin Ev.int (Ev.bin Ev.int (Ev.meth m_index KindIs.lst (by walk_at "mE") (Evs.cons Ev.int Evs.nil) (CallTo.index t1 t2 (by omega))) (Bin.powI (by omega) (by omega) (by decide))) (Bin.divII ?_ ?_)) ?_
          · rw [hp]; exact Int.ne_of_gt (Int.pow_pos (by omega))
          · rw [hp]; exact t5
          · rw [hp, t3]
        · have h0 : v = 0 := by
            have : (v : Int) = 0 := by simpa using h
            omega
          subst h0
          exact Ev.cast Ev.flt (by rfl)
        · exact plains_map fun v _ => rfl
        · refine Ex.nil fun s'' S => ⟨_, ⟨rest, out ++ [v], rfl, fun w hw => hlt w (by simp [hw]), ?_, by rw [List.append_assoc]; exact hf⟩, S⟩
          show some (D.lst (some al) _) = _
          rw [List.map_append]; rfl
    · rintro ρ₁ ⟨rest, out, hd, hlt, hs, hf⟩
      cases rest with
      | cons v rest => cases hd
      | nil =>
        rw [List.append_nil] at hf
        subst hf
        refine Ex.disown (x := "sizes") (ρ' := []) halX hs (fun _ _ h => nomatch h) ?_
        exact Ex.back (Ev.cast (by walk_at "mE") (by rfl))

/-! ## _div2n1n, _divmod_pos, int_divmod -/
theorem Ev.glob {c : Cx} {env : Env} {n : Nat} {ρ : Vars} {x : Str} {p : Pos} {v : Value} {d : D} (K : EnvOk env) (hk : env.kindOf x = some .globalImplicit) (g : GlobIs c x v) (r : ∀ h, Rep c.X h v d) (hd : (x == ("__debug__" : Str)) = false := by decide) : Ev c env n ρ (.Name x p) d :=
  fun A s R I S => ld_glob K I hk g ⟨.refl I, r _⟩ hd

theorem call_div2 {c : Cx} (G : Good c) {n : Nat} {a b : Int} {k : Nat} (ha : a.natAbs < 2 ^ 64) (hb : b ≠ 0) (hb' : b.natAbs < 1073741824) : CallTo c (n + 1) (.ref 52) [.int a, .int b, .int k] (.tup [.int (a.fdiv b), .int (a.fmod b)]) := by
  have hbits : Builtin.Int.intBits a ≤ 64 := PyProof.Rows.intBits_le ha
  refine CallTo.fn [Str.ofString "a", Str.ofString "b", Str.ofString "n"] (FnOk.of (by rw [G.K]; rfl) rfl (by rw [G.K]; rfl) rfl rfl rfl rfl rfl rfl rfl rfl rfl) rfl ?_ ?_ ?_ ?_ ?_
  · intro vs h
    match vs, h with
    | [a, b, c], _ => rfl
  · decide
  · decide
  · intro x hx
    simp only [List.mem_cons, List.not_mem_nil, or_false] at hx
    rcases hx with rfl | rfl | rfl <;> exact .inl rfl
  · intro L s FF
    have F := FF.toFrm
    have K := FF.toEnvOk
    obtain ⟨t, gl⟩ := g_lim G
    refine Ex.if_ (b := true) (Tru.cast (Tru.cmp (Ev.bin (Ev.meth m_bits KindIs.int (by walk_at "mE") Evs.nil CallTo.bits) (by walk_at "mE") Bin.subI) (Ev.glob K rfl gl fun h => .int _ _) Cmp.leI) ?_) (fun _ => ?_) (fun h => by cases h)
    · simp; omega
    · exact Ex.ret (Ev.call K rfl (g_divmod G) (.inl ⟨_, rfl⟩) (Evs.cons (by walk_at "mE") (Evs.cons (by walk_at "mE") Evs.nil)) (CallTo.divmod hb hb')) fun v s' S r => ⟨v, rfl, S.stp, r⟩

theorem call_d2i0 {c : Cx} (G : Good c) {n nn : Nat} : CallTo c (n + 70) (.ref 73) [.lst Option.none [], .int nn] (.int 0) := by
  refine CallTo.fn [Str.ofString "digits", Str.ofString "n"] (FnOk.of (by rw [G.K]; rfl) rfl (by rw [G.K]; rfl) rfl rfl rfl rfl rfl rfl rfl rfl rfl) rfl ?_ ?_ ?_ ?_ ?_
  · intro vs h
    match vs, h with
    | [a, b], _ => rfl
  · decide
  · decide
  · intro x hx
    simp only [List.mem_cons, List.not_mem_nil, or_false] at hx
    rcases hx with rfl | rfl <;> exact .inr ⟨rfl, fun _ => rfl⟩
  · intro L s FF
    have F := FF.toFrm
    have K := FF.toEnvOk
    refine Ex.def_ (t := tab2) (cd := 72) F (by walk_at "mN") (def2 G) rfl rfl rfl (by rfl) ?_
    intro fd hm
    exact Ex.back (Ev.ifExp (b := false) (Tru.value (by walk_at "mE") (Truthy.lst (t := Option.none) (ds := []) (by decide))) (fun h => by cases h) (fun _ => Ev.int))

/-- «x.reverse()» -/
theorem Ex.reverse {c : Cx} {env : Env} {s₀ : Shared} {n : Nat} {ρ ρ' : Vars} {x : Str} {p apos cpos pos : Pos} {a : Addr} {ds : List D} {rest : List Stmt} {P : Flow → Shared → Prop} (F : Frm c env s₀) (ha0 : s₀.heap.get? a = none) (hx : ρ.lookup x = some (.lst (some a) ds))
    (hds : D.plains ds = true) (hl : ds.length ≤ 900) (sub : ∀ y d, ρ'.lookup y = some d → ρ.lookup y = some d) (vo : VOff a ρ')
    (hr : Ex (c.own a) env s₀ n ((x, .lst (some a) ds.reverse) :: ρ') rest P) (hk : env.kindOf x = some .local := by rfl)
    (hi : interactive env = false := by rfl) (hs : swapsWith (.Call (.Attribute (.Name x p) "reverse" apos) [] [] cpos) Option.none pos.line env = pure false := by rfl)
    (hp : (backTo cpos (starEach [] env)).any (·.1) = false := by rfl)
    (hbase : attributeBase (.Name x p) "reverse" env (eval (.Name x p) env) = eval (.Name x p) env := by rfl)
    (hfew : ((backTo cpos (starEach [] env)).all (fun x => !x.1) && (backToKw cpos (keywordEach [] env)).all (fun x => x.1.isSome)
      && decide (([] : List PySem.Expr).length + ([] : List Keyword).length + (if ([] : List Keyword).isEmpty then 0 else 1) < 30)) = true := by rfl)
    (hline : (apos.endLine == cpos.line) = true := by rfl) (hdb : (x == ("__debug__" : Str)) = false := by decide) (hcd : (x == ("__classdict__" : Str)) = false := by decide) :
    Ex (c.own a) env s₀ n ρ (.Expr (.Call (.Attribute (.Name x p) "reverse" apos) [] [] cpos) pos :: rest) P := by
  intro A s R S
  refine wpAny_execs_cons (wpAny_Expr ?_ hi hs)
  have ho : Ev (c.own a) env n ρ (.Name x p) (.lst (some a) ds) := Ev.name F.toEnvOk hx hdb hcd
  refine wpAny_Call_method_late hbase hfew hline rfl (Gives.use (c := c.own a) (ho A s R S.inv S.st) fun v s₁ y r => ?_)
  obtain ⟨k1, k2⟩ := KindIs.lst (c.own a).X s₁ v r
  refine ⟨_, _, m_reverse.pa, m_reverse.slot, m_reverse.ty, k1, k2, ?_⟩
  refine Calls.callWith_builtin hp (evalArgs_all hp (wpAny_mono (Evs.nil (c := c.own a) (n := n) (ρ := ρ) A s₁ cpos R y.inv (S.st.ext y.ext)) (fun vs s₂ z => ?_) fun _ _ z => z.elim))
  cases z.2.inv0
  rcases (r.ext z.1.ext).isLst with ⟨a', vs, m, rfl, e, t, _, rs⟩
  ·
    have := t a rfl
    subst this
    have hlen := rs.length
    have e0 : Obj.mapSeq (fun x => x.reverse) (lstObj vs m) = lstObj vs.reverse m := by
      simp only [Obj.mapSeq, lstObj]
      congr 1
      simp
    have hX : a ∈ (c.own a).X := List.mem_cons_self
    refine call_meets m_reverse.slot ⟨_, e, rfl⟩ PySem.F.entry_list_reverse (PySem.F.args_list_reverse_1 _) (AutoListH.list_reverse_list_0 a vs.toArray m (by rw [List.size_toArray]; exact Nat.le_trans (by omega) (show 1000 ≤ sizeLine by decide))) ⟨e, ?_⟩
    have hs' : Heap.SameBut a s₂.heap (s₂.heap.update a (Obj.mapSeq fun x => x.reverse)) := Heap.SameBut.update ..
    have e' : (s₂.heap.update a (Obj.mapSeq fun x => x.reverse)).get? a = some (lstObj vs.reverse m) := by
      rw [Heap.get?_update_self _ e (by rw [e0]; rfl), e0]
    have S₂ := (S.step y).step z.1
    have S₃ := Sta.write F ha0 S₂ hk hx sub vo e e' hs' (rs.put e hX hs'.extBut (D.plains_off a ds hds)).reverse
    exact wpAny_mono (hr A _ R S₃) (fun _ _ q => ⟨Fram.trans (Fram.trans (.of_ext (y.trans z.1).ext) (.of_but hs'.extBut (.inr (.inr hX)))) q.1, q.2⟩) fun _ _ z => z

/-! ## _divmod_pos -/
theorem dig_val (nn : Nat) : ∀ k x, dval nn (dig nn k x) = ((x % 2 ^ (nn * k) : Nat) : Int)
  | 0, x => by simp [dig, dval, Nat.mod_one]
  | k + 1, x => by
    rw [dig, dval, dig_val nn k, Nat.mul_add, Nat.mul_one, Nat.add_comm (nn * k) nn, Nat.pow_add, Nat.mod_mul]
    simp
theorem dig_range (nn : Nat) : ∀ k x, ∀ d ∈ dig nn k x, 0 ≤ d ∧ d < 2 ^ nn
  | 0, _, d, h => by cases h
  | k + 1, x, d, h => by
    rw [dig] at h
    rcases List.mem_cons.mp h with rfl | h
    · refine ⟨by omega, ?_⟩
      have := Nat.mod_lt x (show 0 < 2 ^ nn from Nat.pow_pos (by omega))
      exact_mod_cast this
    · exact dig_range nn k _ d h

theorem call_dmp {c : Cx} (G : Good c) {n a b : Nat} (ha : a < 2 ^ 40) (hb : 0 < b) (hb' : b < 2 ^ 20) : CallTo c (n + 90) (.ref 80) [.int a, .int b] (.tup [.int (a / b : Nat), .int (a % b : Nat)]) := by
  generalize hnn : Builtin.Int.intBits (b : Int) = nn
  have n20 : nn ≤ 20 := hnn ▸ PyProof.Rows.intBits_le (by simpa using hb')
  have bnn : b < 2 ^ nn := by
    have := (PySem.intBits_le_iff (m := Builtin.Int.intBits (b : Int)) (x := (b : Int))).mp (Nat.le_refl _)
    rw [hnn] at this
    simpa using this
  have n1 : 1 ≤ nn := by
    rcases Nat.eq_zero_or_pos nn with q | q
    · subst q; simp at bnn; omega
    · exact q
  have hbits : Builtin.Int.intBits (a : Int) ≤ 40 := PyProof.Rows.intBits_le (by simpa using ha)
  generalize hk : (Builtin.Int.intBits (a : Int) + nn - 1) / nn = k
  have hnk : nn * k ≤ 59 := by
    have := Nat.div_mul_le_self (Builtin.Int.intBits (a : Int) + nn - 1) nn
    rw [hk, Nat.mul_comm] at this
    omega
  have hak : a < 2 ^ (nn * k) := by
    have h1 : a < 2 ^ Builtin.Int.intBits (a : Int) := by
      have := (PySem.intBits_le_iff (m := Builtin.Int.intBits (a : Int)) (x := (a : Int))).mp (Nat.le_refl _)
      simpa using this
    refine Nat.lt_of_lt_of_le h1 (Nat.pow_le_pow_right (by omega) ?_)
    have := Nat.div_add_mod (Builtin.Int.intBits (a : Int) + nn - 1) nn
    have h2 := Nat.mod_lt (Builtin.Int.intBits (a : Int) + nn - 1) (show nn > 0 by omega)
    rw [hk] at this
    omega
  have hk59 : k ≤ 59 := Nat.le_trans (Nat.le_mul_of_pos_left k n1) hnk
  have p20 : (2 : Int) ^ nn ≤ 2 ^ 20 := by exact_mod_cast Nat.pow_le_pow_right (by omega) n20
  have p0 : (0 : Int) < 2 ^ nn := Int.pow_pos (by omega)
  have bI : (b : Int) < 2 ^ nn := by exact_mod_cast bnn
  refine CallTo.fn [Str.ofString "a", Str.ofString "b"] (FnOk.of (by rw [G.K]; rfl) rfl (by rw [G.K]; rfl) rfl rfl rfl rfl rfl rfl rfl rfl rfl) rfl ?_ ?_ ?_ ?_ ?_
  · intro vs h
    match vs, h with
    | [a, b], _ => rfl
  · decide
  · decide
  · intro x hx
    simp only [List.mem_cons, List.not_mem_nil, or_false] at hx
    rcases hx with rfl | rfl <;> exact .inl rfl
  · intro L s FF
    have F := FF.toFrm
    have K := FF.toEnvOk
    refine Ex.assign (d := .int nn) F (by walk_at "mN") (Ev.cast (Ev.meth m_bits KindIs.int (by walk_at "mE") Evs.nil CallTo.bits) (by rw [hnn])) ?_
    have hc : CallTo c (n + 89) (.ref 66) [.int a, .int nn] (.lst Option.none ((dig nn k a).map D.int)) := call_i2d G (n := n + 19) (Nat.lt_trans ha (by decide)) n1 (by omega) hk.symm (by omega)
    refine Ex.assign F (by walk_at "mN") (Ev.call K rfl (g_i2d G) (callee_of G rfl) (Evs.cons (by walk_at "mE") (Evs.cons (by walk_at "mE") Evs.nil)) hc) ?_
    refine Ex.assign F (by walk_at "mN") (by walk_at "mE") ?_
    refine Ex.own F (by walk_at "mN") (EvF.list Evs.nil) rfl ?_
    intro al hal halX
    refine Ex.for_ (c := c.own al) (ds := ((dig nn k a).map D.int).reverse) F.own
      (fun ds ρ₁ => ∃ (done rest qs : List Int) (r : Int), ds = rest.map D.int ∧ (dig nn k a).reverse = done ++ rest ∧ dval nn done.reverse = dval nn qs.reverse * b + r ∧ 0 ≤ r ∧ r < b ∧ (∀ q ∈ qs, 0 ≤ q ∧ q < 2 ^ nn) ∧ qs.length = done.length ∧
        SubV ρ₁ [(Str.ofString "q_digits", .lst (some al) (qs.map D.int)), (Str.ofString "r", .int r), (Str.ofString "b", .int b), (Str.ofString "n", .int nn)])
      (Src.rev K rfl (g_reversed G.own) (by walk_at "mE")) ⟨[], (dig nn k a).reverse, [], 0, by rw [List.map_reverse], rfl, by simp [dval], by omega, by omega, by simp, rfl, ⟨rfl, rfl, rfl, rfl, trivial⟩⟩ ?_ ?_ ?_
    · rintro d ds ρ₁ ⟨done, rest, qs, r, hd, hdig, hinv, r0, r1, hq, hlen, hsub⟩
      cases rest with
      | nil => cases hd
      | cons v rest =>
        cases hd
        refine ⟨_, Tgt.name F.own NmOk.loc, ?_⟩
        have hv : 0 ≤ v ∧ v < 2 ^ nn := dig_range nn k a v (List.mem_reverse.mp (by rw [hdig]; simp))
        have hlk : done.length + (rest.length + 1) = k := by
          have := congrArg List.length hdig
          simpa [dig_length] using this.symm
        refine Ex.less (ρ' := [(Str.ofString "a_digit", .int v), (Str.ofString "q_digits", .lst (some al) (qs.map D.int)), (Str.ofString "r", .int r), (Str.ofString "b", .int b), (Str.ofString "n", .int nn)]) ?_ (SubV.look ⟨rfl, hsub.1, hsub.2.1, hsub.2.2.1, hsub.2.2.2.1, trivial⟩)
        have e1 : r * 2 ^ ((nn : Int)).toNat + v = r * 2 ^ nn + v := by rw [Int.toNat_natCast]
        have m0 : 0 ≤ r * 2 ^ nn := Int.mul_nonneg r0 (Int.le_of_lt p0)
        have m1 : (r + 1) * 2 ^ nn ≤ b * 2 ^ nn := Int.mul_le_mul_of_nonneg_right (by omega) (Int.le_of_lt p0)
        have m2 : (b : Int) * 2 ^ nn ≤ 2 ^ 20 * 2 ^ 20 := Int.mul_le_mul (by omega) p20 (Int.le_of_lt p0) (by decide)
        rw [Int.add_mul, Int.one_mul] at m1
        have hcall : CallTo (c.own al) (n + 89) (.ref 52) [.int (r * 2 ^ nn + v), .int b, .int nn] (.tup [.int ((r * 2 ^ nn + v).fdiv b), .int ((r * 2 ^ nn + v).fmod b)]) := call_div2 G.own (n := n + 88) (by omega) (by omega) (by omega)
        have bpos : (0 : Int) < b := by omega
        have hfd : (r * 2 ^ nn + v).fdiv b = (r * 2 ^ nn + v) / b := Int.fdiv_eq_ediv_of_nonneg _ (by omega)
        have hfm : (r * 2 ^ nn + v).fmod b = (r * 2 ^ nn + v) % b := Int.fmod_eq_emod_of_nonneg _ (by omega)
        have q0 : 0 ≤ (r * 2 ^ nn + v) / b := Int.ediv_nonneg (by omega) (by omega)
        have q1 : (r * 2 ^ nn + v) / b < 2 ^ nn := Int.ediv_lt_of_lt_mul bpos (by rw [Int.mul_comm (2 ^ nn) (b : Int)]; omega)
        refine Ex.assignT (Ev.call K rfl (g_div2 G.own) (callee_of G.own rfl) (Evs.cons (Ev.cast (Ev.bin (Ev.bin (by walk_at "mE") (by walk_at "mE") (Bin.shlI (by omega) (by omega) (by omega))) (by walk_at "mE") Bin.addI) (by rw [e1])) (Evs.cons (by walk_at "mE") (Evs.cons (by walk_at "mE") Evs.nil))) hcall) (Tgt.tuple (Tgts.cons F.own (by walk_at "mN") (Tgts.cons F.own (by walk_at "mN") Tgts.nil))) ?_
        rw [hfd, hfm]
        refine Ex.append (d := .int ((r * 2 ^ nn + v) / b)) (ρ' := [(Str.ofString "r", .int ((r * 2 ^ nn + v) % b)), (Str.ofString "b", .int b), (Str.ofString "n", .int nn)]) F hal rfl (by walk_at "mE") rfl (plains_map fun v _ => rfl) (by simp; omega) (SubV.look ⟨rfl, rfl, rfl, trivial⟩) ?_ ?_
        · exact ((VOff.cons (VOff.cons (VOff.cons (fun _ _ h => nomatch h) rfl) rfl) rfl))
        · refine Ex.nil fun s'' S => ⟨_, ⟨done ++ [v], rest, qs ++ [(r * 2 ^ nn + v) / b], (r * 2 ^ nn + v) % b, rfl, by rw [hdig, List.append_assoc]; rfl, ?_, Int.emod_nonneg _ (by omega), Int.emod_lt_of_pos _ bpos, ?_, by simp [hlen], ⟨?_, rfl, rfl, rfl, trivial⟩⟩, S⟩
          · rw [List.reverse_append, List.reverse_append]
            show v + 2 ^ nn * dval nn done.reverse = ((r * 2 ^ nn + v) / b + 2 ^ nn * dval nn qs.reverse) * b + _
            rw [hinv]
            have := Int.mul_ediv_add_emod (r * 2 ^ nn + v) b
            rw [Int.add_mul, Int.mul_add, ← Int.mul_assoc, Int.mul_comm ((r * 2 ^ nn + v) / b) b, Int.mul_comm (2 ^ nn) r]
            omega
          · intro q hq'
            rcases List.mem_append.mp hq' with h | h
            · exact hq q h
            · rw [List.mem_singleton.mp h]; exact ⟨q0, q1⟩
          · show some (D.lst (some al) _) = _
            rw [List.map_append]; rfl
    · rintro ρ₁ ⟨done, rest, qs, r, hd, hdig, hinv, r0, r1, hq, hlen, hsub⟩
      cases rest with
      | cons v rest => cases hd
      | nil =>
        rw [List.append_nil] at hdig
        have hval : dval nn done.reverse = a := by
          rw [← hdig, List.reverse_reverse, dig_val, Nat.mod_eq_of_lt hak]
        have hlk : done.length = k := by rw [← hdig, List.length_reverse, dig_length]
        rw [hval] at hinv
        refine Ex.less (ρ' := [(Str.ofString "q_digits", .lst (some al) (qs.map D.int)), (Str.ofString "r", .int r), (Str.ofString "n", .int nn)]) ?_ (SubV.look ⟨hsub.1, hsub.2.1, hsub.2.2.2.1, trivial⟩)
        refine Ex.reverse (ρ' := [(Str.ofString "r", .int r), (Str.ofString "n", .int nn)]) F hal rfl (plains_map fun v _ => rfl) (by simp; omega) (SubV.look ⟨rfl, rfl, trivial⟩) (VOff.cons (VOff.cons (fun _ _ h => nomatch h) rfl) rfl) ?_
        refine Ex.disown (x := "q_digits") (ρ' := [(Str.ofString "r", .int r), (Str.ofString "n", .int nn)]) halX rfl (SubV.look ⟨rfl, rfl, trivial⟩) ?_
        have qn : 0 ≤ dval nn qs.reverse := dval_nonneg _ _ fun d hd => (hq d (List.mem_reverse.mp hd)).1
        have hqa : dval nn qs.reverse = ((a / b : Nat) : Int) := by
          have : ((a : Int)) / b = dval nn qs.reverse := by
            rw [hinv, Int.add_comm, Int.add_mul_ediv_right _ _ (by omega), Int.ediv_eq_zero_of_lt r0 r1]; omega
          rw [← this]; rfl
        have hra : r = ((a % b : Nat) : Int) := by
          have h1 := Nat.div_add_mod a b
          have h2 : ((b : Int)) * ((a / b : Nat) : Int) + ((a % b : Nat) : Int) = a := by exact_mod_cast h1
          rw [hqa, Int.mul_comm] at hinv
          omega
        have hcall : CallTo c (n + 89) (.ref 73) [.lst Option.none (qs.map D.int).reverse, .int nn] (.int (dval nn qs.reverse)) := by
          rw [← List.map_reverse]
          cases hqe : qs with
          | nil => exact call_d2i0 G (n := n + 19)
          | cons q0 qr =>
            rw [← hqe]
            have hl2 : qs.reverse.length = k := by rw [List.length_reverse, hlen, hlk]
            exact call_d2i G (n := n + 19) (fun d hd => hq d (List.mem_reverse.mp hd)) (by rw [hqe]; simp) (by rw [hl2]; omega) (by omega) (by omega)
        refine Ex.assign F (by walk_at "mN") (Ev.call K rfl (g_d2i G) (callee_of G rfl) (Evs.cons (by walk_at "mE") (Evs.cons (by walk_at "mE") Evs.nil)) hcall) ?_
        exact Ex.back (Ev.cast (by walk_at "mE") (by rw [hqa, ← hra]))
    · rw [← List.map_reverse]; exact plains_map fun v _ => rfl

/-! ## int_divmod -/
theorem bitNot_eq (a : Int) : Builtin.bitNot a = -a - 1 := by unfold Builtin.bitNot; omega
theorem call_idm0 {c : Cx} (G : Good c) {n a b : Nat} (ha : a < 2 ^ 40) (hb : 0 < b) (hb' : b < 2 ^ 20) : CallTo c (n + 91) (.ref 87) [.int a, .int b] (.tup [.int (a / b : Nat), .int (a % b : Nat)]) := by
  refine CallTo.fn [Str.ofString "a", Str.ofString "b"] (FnOk.of (by rw [G.K]; rfl) rfl (by rw [G.K]; rfl) rfl rfl rfl rfl rfl rfl rfl rfl rfl) rfl ?_ ?_ ?_ ?_ ?_
  · intro vs h
    match vs, h with
    | [a, b], _ => rfl
  · decide
  · decide
  · intro x hx
    simp only [List.mem_cons, List.not_mem_nil, or_false] at hx
    rcases hx with rfl | rfl <;> exact .inl rfl
  · intro L s FF
    have F := FF.toFrm
    have K := FF.toEnvOk
    have hc : CallTo c (n + 90) (.ref 80) [.int a, .int b] (.tup [.int (a / b : Nat), .int (a % b : Nat)]) := call_dmp G (n := n) ha hb hb'
    refine Ex.if_ (b := false) (Tru.cast (by walk_at "mT") (by simp; omega)) (fun h => by cases h) (fun _ => ?_)
    refine Ex.if_ (b := false) (Tru.cast (by walk_at "mT") (by simp)) (fun h => by cases h) (fun _ => ?_)
    refine Ex.if_ (b := false) (Tru.cast (by walk_at "mT") (by simp)) (fun h => by cases h) (fun _ => ?_)
    exact Ex.ret (Ev.call K rfl (g_dmp G) (callee_of G rfl) (Evs.cons (by walk_at "mE") (Evs.cons (by walk_at "mE") Evs.nil)) hc) fun v s' S r => ⟨v, rfl, S.stp, r⟩

theorem call_idm {c : Cx} (G : Good c) {n b : Nat} {a : Int} (ha : a.natAbs < 2 ^ 40) (hb : 0 < b) (hb' : b < 2 ^ 20) : CallTo c (n + 92) (.ref 87) [.int a, .int b] (.tup [.int (a / b), .int (a % b)]) := by
  by_cases h0 : 0 ≤ a
  · obtain ⟨m, rfl⟩ := Int.eq_ofNat_of_zero_le h0
    exact call_idm0 G (n := n + 1) (by simpa using ha) hb hb'
  · obtain ⟨m, hm⟩ : ∃ m : Nat, -a - 1 = m := ⟨(-a - 1).toNat, by omega⟩
    refine CallTo.fn [Str.ofString "a", Str.ofString "b"] (FnOk.of (by rw [G.K]; rfl) rfl (by rw [G.K]; rfl) rfl rfl rfl rfl rfl rfl rfl rfl rfl) rfl ?_ ?_ ?_ ?_ ?_
    · intro vs h
      match vs, h with
      | [a, b], _ => rfl
    · decide
    · decide
    · intro x hx
      simp only [List.mem_cons, List.not_mem_nil, or_false] at hx
      rcases hx with rfl | rfl <;> exact .inl rfl
    · intro L s FF
      have F := FF.toFrm
      have K := FF.toEnvOk
      have hc : CallTo c (n + 91) (.ref 87) [.int m, .int b] (.tup [.int (m / b : Nat), .int (m % b : Nat)]) := call_idm0 G (n := n) (by omega) hb hb'
      refine Ex.if_ (b := false) (Tru.cast (by walk_at "mT") (by simp; omega)) (fun h => by cases h) (fun _ => ?_)
      refine Ex.if_ (b := false) (Tru.cast (by walk_at "mT") (by simp)) (fun h => by cases h) (fun _ => ?_)
      refine Ex.if_ (b := true) (Tru.cast (by walk_at "mT") (by simp; omega)) (fun _ => ?_) (fun h => by cases h)
      refine Ex.assignT (Ev.call K rfl (g_idm G) (callee_of G rfl) (Evs.cons (Ev.cast (by walk_at "mE") (by rw [bitNot_eq, hm])) (Evs.cons (by walk_at "mE") Evs.nil)) hc) (Tgt.tuple (Tgts.cons F (by walk_at "mN") (Tgts.cons F (by walk_at "mN") Tgts.nil))) ?_
      have hd := Nat.div_add_mod m b
      have hd' : (b : Int) * ((m / b : Nat) : Int) + ((m % b : Nat) : Int) = m := by exact_mod_cast hd
      have hlt : ((m % b : Nat) : Int) < b := by exact_mod_cast Nat.mod_lt m hb
      have hge : (0 : Int) ≤ ((m % b : Nat) : Int) := by omega
      have key : a = (b : Int) * (-((m / b : Nat) : Int) - 1) + (b + (-((m % b : Nat) : Int) - 1)) := by
        rw [Int.mul_sub, Int.mul_neg, Int.mul_one]; omega
      have e1 : a / b = -((m / b : Nat) : Int) - 1 := by
        rw [key, Int.mul_add_ediv_left _ _ (by omega), Int.ediv_eq_zero_of_lt (by omega) (by omega)]; omega
      have e2 : a % b = b + (-((m % b : Nat) : Int) - 1) := by
        have := Int.mul_ediv_add_emod a b
        rw [e1] at this
        omega
      exact Ex.ret (Ev.cast (by walk_at "mE") (by rw [bitNot_eq, bitNot_eq, e1, e2])) fun v s' S r => ⟨v, rfl, S.stp, r⟩

/-! ## A pattern's search that finds nothing -/
theorem rp_plain : PlainAttrs "re.Pattern" :=
  ⟨⟨"object.__getattribute__", by rw [typeLookup_type, builtinLookup_eq_fast]; kernel_rfl, by decide +kernel⟩, by rw [typeLookup_type, builtinLookup_eq_fast]; kernel_rfl⟩
theorem rp_slot : Slot "re.Pattern" "search" "re.Pattern.search" :=
  .of (owner := "re.Pattern") (n := "search") (by rw [typeLookup_type, builtinLookup_eq_fast]; kernel_rfl) (by decide +kernel) (by decide +kernel) (by decide +kernel)
    (by first | exact .inl (by decide +kernel) | exact .inr (by decide +kernel)) (by rw [isSubtype_type]; kernel_rfl)
theorem rp_type : typeOf (.builtin "re.Pattern.search") = pure (.type "method_descriptor") := by show builtinType _ = _; rw [builtinType_eq_fast]; kernel_rfl
theorem rp_entry : entryFor table "re.Pattern.search" = some Builtin.«re.Pattern.search» := entryFor_of_tree (by kernel_rfl)
theorem rp_args (a b : Value) : argsOk "re.Pattern.search" ⟨[a, b], []⟩ := by unfold argsOk; kernel_rfl
theorem m_search : MethOk "re.Pattern" "search" "re.Pattern.search" := ⟨rp_plain, rp_slot, rp_type⟩

/-- nothing of the text is in the first set -/
def reNo (code : Array Nat) (groups : Nat) (x : Str) : Bool := match ((Sre.forSearch code x.cps groups 0 x.cps.size false).runFor 4).outcome with
  | some .failed => true
  | _ => false

structure PatAt (h : Heap) (a : Addr) (code : Array Nat) (groups : Nat) : Prop where
  ex : ∃ (fs : Array Value) (T : Addr) (ws : Array Value) (n : Nat), h.get? a = some { cls := .type "re.Pattern", data := .fields fs } ∧ fs.getD 5 .none = .ref T ∧ Builtin.Re.reRawNat (fs.getD 2 .none) = groups ∧ Builtin.Re.reRawNat (fs.getD 6 .none) = 0 ∧
    h.get? T = some { cls := .type "tuple", data := .seq ws n } ∧ (ws.map Builtin.Re.reRawOf).map (·.toNat) = code

theorem rules_all {M : Model} {A : Around} {E : Value → Shared → Prop} {s : Shared} {Q : Unit → Shared → Prop} {f : Nat → Bool} {g : Nat → String} (h : Q () s) : ∀ l : List Nat, wpAny M A (forIn l PUnit.unit fun i (_ : PUnit) => if f i = true then (do rule (g i); pure (ForInStep.yield PUnit.unit)) else pure (ForInStep.yield PUnit.unit)) Q E s
  | [] => by rw [List.forIn_nil]; exact wpAny_pure h
  | i :: r => by
    rw [List.forIn_cons]
    refine wpAny_bind ?_
    split
    · exact wpAny_bind (wpAny_rule (wpAny_pure (rules_all h r)))
    · exact wpAny_pure (rules_all h r)

theorem search_no {c : Cx} {n : Nat} {a : Addr} {code : Array Nat} {groups : Nat} {x : Str} (P : PatAt c.B a code groups) (hx : x.cps.size < 1000) (h : reNo code groups x = true) : CallTo c n (.builtin "re.Pattern.search") [.ref a, .str x] .none := by
  intro A s vs R I r
  obtain ⟨v, u, rfl, r0, r1⟩ := two_of r
  obtain ⟨t1, rfl⟩ := r1.isStr
  cases r0
  obtain ⟨fs, T, ws, m, h1, h2, h3, h4, h5, h6⟩ := P.ex
  have k1 := I.base _ _ h1
  have k5 := I.base _ _ h5
  refine wpAny_call_entry rp_slot ⟨_, k1, rfl⟩ rp_entry ?_ (rp_args _ _)
  unfold Builtin.«re.Pattern.search»
  refine wpAny_bind (wpAny_mono (Q := fun t s' => t = { pattern := .ref a, string := .str x t1, code := code, text := x.cps, kind := 0, groups := groups, pos := 0, lim := x.cps.size } ∧ s' = s) ?_ (fun t s' q => ?_) fun _ _ z => z)
  · unfold Builtin.Re.reTarget
    have hn : Builtin.Re.reNamed "re.Pattern.search" "search" ["string", "pos", "endpos"] 1 [.str x t1] [] = pure [some (.str x t1), none, none] := by rfl
    show wpAny _ _ (Builtin.Re.reNamed "re.Pattern.search" "search" ["string", "pos", "endpos"] 1 [.str x t1] [] >>= _) _ _ s
    rw [hn]
    refine wpAny_bind (wpAny_pure ?_)
    refine wpAny_bind (wpAny_pure (wpAny_bind (wpAny_pure ?_)))
    refine wpAny_bind (wpAny_fieldsOf k1 rfl ?_)
    show wpAny _ _ (Builtin.Re.reTextOf (.str x t1) >>= _) _ _ s
    have ht : Builtin.Re.reTextOf (.str x t1) = pure (x.cps, 0) := by rfl
    rw [ht]
    refine wpAny_bind (wpAny_pure ?_)
    dsimp only
    rw [h4]
    simp only [beq_self_eq_true, Bool.true_and, show ((0 : Nat) == 1) = false from rfl, Bool.false_and, Bool.false_eq_true, if_false]
    refine wpAny_bind (wpAny_pure ?_)
    rw [h2]
    unfold Builtin.Re.reRawItems
    refine wpAny_bind (wpAny_bind (wpAny_seqItems k5 rfl (wpAny_pure (wpAny_pure ⟨?_, rfl⟩))))
    have e1 : min ((0 : Int).toNat) x.cps.size = 0 := by simp
    have e2 : min (((2 ^ 63 - 1 : Int)).toNat) x.cps.size = x.cps.size := by
      have : ((2 ^ 63 - 1 : Int)).toNat = 9223372036854775807 := by decide
      rw [this]; omega
    dsimp only [Option.getD_some]
    rw [e1, e2, h3, h6]
  · obtain ⟨rfl, rfl⟩ := q
    unfold Builtin.Re.reAnswer Builtin.Re.reRunToEnd
    dsimp only
    unfold reNo at h
    have hd : Builtin.Re.reDrive (2 ^ 64) (Sre.forSearch code x.cps groups 0 x.cps.size false) = pure ((Sre.forSearch code x.cps groups 0 x.cps.size false).runFor 4) := by
      show Builtin.Re.reDrive (18446744073709551615 + 1) _ = _
      unfold Builtin.Re.reDrive
      have hs : ((Sre.forSearch code x.cps groups 0 x.cps.size false).runFor 4).outcome.isSome = true := by
        revert h
        split
        · rename_i q; intro _; rw [q]; rfl
        · intro h; cases h
      show (if ((Sre.forSearch code x.cps groups 0 x.cps.size false).runFor 4).outcome.isSome = true then pure _ else _) = _
      rw [if_pos hs]; rfl
    rw [hd]
    refine wpAny_bind (wpAny_bind (wpAny_pure ?_))
    refine wpAny_bind (rules_all ?_ _)
    revert h
    split
    · rename_i q
      intro _
      rw [q]
      exact wpAny_pure (wpAny_pure ⟨_, rfl, .refl I, .none⟩)
    · intro h; cases h

/-! ## Headers: what is known of the class -/
theorem k_ga {c : Cx} (G : Good c) : findIn c.K (.ref 218) "__getattribute__" = some (some (.builtin "object.__getattribute__")) := by rw [G.K]; with_unfolding_all rfl
theorem k_gx {c : Cx} (G : Good c) : findIn c.K (.ref 218) "__getattr__" = some none := by rw [G.K]; with_unfolding_all rfl
theorem k_sa {c : Cx} (G : Good c) : findIn c.K (.ref 218) "__setattr__" = some (some (.builtin "object.__setattr__")) := by rw [G.K]; with_unfolding_all rfl
theorem k_init {c : Cx} (G : Good c) : findIn c.K (.ref 218) "__init__" = some (some (.ref 112)) := by rw [G.K]; with_unfolding_all rfl
theorem k_conv {c : Cx} (G : Good c) : findIn c.K (.ref 218) "_convert_string_type" = some (some (.ref 119)) := by rw [G.K]; with_unfolding_all rfl
theorem k_all {c : Cx} (G : Good c) : findIn c.K (.ref 218) "get_all" = some (some (.ref 157)) := by rw [G.K]; with_unfolding_all rfl
theorem k_hd {c : Cx} (G : Good c) : findIn c.K (.ref 218) "_headers" = some none := by rw [G.K]; with_unfolding_all rfl
theorem k_t112 {c : Cx} (G : Good c) : typeIn c.K (.ref 112) = some (.type "function") := by rw [G.K]; with_unfolding_all rfl
theorem k_t119 {c : Cx} (G : Good c) : typeIn c.K (.ref 119) = some (.type "function") := by rw [G.K]; with_unfolding_all rfl
theorem k_t157 {c : Cx} (G : Good c) : typeIn c.K (.ref 157) = some (.type "function") := by rw [G.K]; with_unfolding_all rfl
theorem k_k119 {c : Cx} (G : Good c) : keepIn c.K (.ref 119) = true := by rw [G.K]; with_unfolding_all rfl
theorem k_k157 {c : Cx} (G : Good c) : keepIn c.K (.ref 157) = true := by rw [G.K]; with_unfolding_all rfl
theorem k_k218 {c : Cx} (G : Good c) : keepIn c.K (.ref 218) = true := by rw [G.K]; with_unfolding_all rfl
theorem k_makes {c : Cx} (G : Good c) : makesIn c.K 218 = true := by rw [G.K]; with_unfolding_all rfl
theorem k_plain {c : Cx} (G : Good c) : plainOver c.K 218 = true := by rw [G.K]; with_unfolding_all rfl
theorem k_taker {c : Cx} (G : Good c) : takerIn c.K 218 "_headers" = some none := by rw [G.K]; with_unfolding_all rfl
theorem k_dict {c : Cx} (G : Good c) : ∃ cd, clsIn c.K 218 = some cd ∧ cd.hasDict = true := by
  have : (clsIn c.K 218).any (·.hasDict) = true := by rw [G.K]; with_unfolding_all rfl
  exact any_some this

/-- the two patterns' codes, read off the heap -/
def codeAt (K : Frag) (a : Addr) : Array Nat := match K.lookup a with
  | some ⟨_, _, .seq ws _, _⟩ => (ws.map Builtin.Re.reRawOf).map (·.toNat)
  | _ => #[]
theorem pat92 {c : Cx} (G : Good c) : PatAt c.B 92 (codeAt c.K 91) 0 := by
  refine ⟨_, 91, _, _, c.KB 92 _ (by rw [G.K]; with_unfolding_all rfl), rfl, rfl, rfl, c.KB 91 _ (by rw [G.K]; with_unfolding_all rfl), ?_⟩
  unfold codeAt
  rw [G.K]; rfl
theorem pat97 {c : Cx} (G : Good c) : PatAt c.B 97 (codeAt c.K 96) 0 := by
  refine ⟨_, 96, _, _, c.KB 97 _ (by rw [G.K]; with_unfolding_all rfl), rfl, rfl, rfl, c.KB 96 _ (by rw [G.K]; with_unfolding_all rfl), ?_⟩
  unfold codeAt
  rw [G.K]; rfl

/-- a text without control characters, as the patterns say -/
def clean (K : Frag) (x : Str) : Bool := decide (x.cps.size < 1000) && reNo (codeAt K 91) 0 x && reNo (codeAt K 96) 0 x

/-! ## A made thing's datum -/
abbrev hdrObj (dx : Addr) : Obj := ⟨.ref 218, some dx, .plain, #[]⟩
structure HdrAt (X : List Addr) (h : Heap) (a : Addr) (ps : List (Str × Str)) (d : Addr) (es : List DictEntry) (ep : Nat) (l : Addr) (vs : List Value) (n : Nat) : Prop where
  inst : InstAt h a (hdrObj d) 218 (some (PySem.W.dictOf es ep))
  here : getL "_headers" es = some (some (.ref l))
  no : ∀ nm : Str, nm ≠ "_headers" → getL nm es = some none
  lst : h.get? l = some (lstObj vs n)
  off : l ∉ X
  ps : Pairs h vs ps
theorem Rep.isHdr {X : List Addr} {h : Heap} {v : Value} {ps : List (Str × Str)} (r : Rep X h v (.hdr ps)) : ∃ a d es ep l vs n, v = .ref a ∧ HdrAt X h a ps d es ep l vs n := by
  cases r with
  | hdr e1 e2 e3 e4 e5 q p => exact ⟨_, _, _, _, _, _, _, rfl, ⟨⟨e1, rfl, rfl, e2⟩, e3, e4, e5, q, p⟩⟩
theorem Rep.isRef {X : List Addr} {h : Heap} {v : Value} {a : Addr} (r : Rep X h v (.ref a)) : v = .ref a := by cases r; rfl

def pairD (p : Str × Str) : D := .tup [.str p.1, .str p.2]
theorem Pairs.reps {X : List Addr} {h : Heap} : ∀ {vs l}, Pairs h vs l → Reps X h vs (l.map pairD)
  | _, _, .nil => .nil
  | _, _, .cons e r => .cons (.tup e (.cons (.str _ _) (.cons (.str _ _) .nil))) (Pairs.reps r)
theorem Reps.pairs {X : List Addr} {h : Heap} : ∀ {vs : List Value} {l : List (Str × Str)}, Reps X h vs (l.map pairD) → Pairs h vs l
  | _, [], .nil => .nil
  | _, (x, y) :: l, .cons r rs => by
    rcases r.isTup with ⟨_, _, _, rfl, e, r⟩
    ·
      obtain ⟨v, vs, rfl, r0, r⟩ := r.inv
      obtain ⟨u, us, rfl, r1, r⟩ := r.inv
      cases r.inv0
      obtain ⟨t, rfl⟩ := r0.isStr
      obtain ⟨t', rfl⟩ := r1.isStr
      exact .cons e (Reps.pairs rs)

/-- «self._headers» -/
theorem Ev.hdrs {c : Cx} (G : Good c) {env : Env} {n : Nat} {ρ : Vars} {x : Str} {p pos : Pos} {ps : List (Str × Str)} (ho : Ev c env n ρ (.Name x p) (.hdr ps)) : Ev c env n ρ (.Attribute (.Name x p) "_headers" pos) (.lst Option.none (ps.map pairD)) := by
  intro A s R I S
  refine Attribute_name ((ho A s R I S).use fun v s₁ y r => ?_)
  obtain ⟨a, d, es, ep, l, vs, m, rfl, H⟩ := r.isHdr
  obtain ⟨cd, hcd, hdd⟩ := k_dict G
  have hf : findObj c.K 218 (some (PySem.W.dictOf es ep)) "_headers" = some (.value (.ref l)) := by
    unfold findObj
    rw [hcd, Option.bind_some, k_hd G]
    show (PySem.W.ownOf cd (some (PySem.W.dictOf es ep)) "_headers").bind _ = _
    unfold PySem.W.ownOf
    rw [hdd, if_pos rfl]
    dsimp only
    rw [lookIn_dict, H.here]
    rfl
  exact get_value (K := c.K) y.inv.K H.inst (k_ga G) hf rfl ⟨y.trans (.tok y.inv _), .lst H.lst (fun _ q => by cases q) (fun _ => H.off) H.ps.reps⟩

/-- a global name that holds an object of the text -/
theorem Ev.globR {c : Cx} {env : Env} {n : Nat} {ρ : Vars} {x : Str} {pos : Pos} {a : Addr} (K : EnvOk env) (hk : env.kindOf x = some .globalImplicit) (g : GlobIs c x (.ref a)) (hd : (x == ("__debug__" : Str)) = false := by decide) : Ev c env n ρ (.Name x pos) (.ref a) := by
  intro A s R I S
  exact ld_glob K I hk g ⟨.refl I, .ref _⟩ hd

/-- a method of a built-in kind, upon something that stands throughout -/
theorem Ev.methK {c : Cx} {env : Env} {n : Nat} {ρ : Vars} {o : PySem.Expr} {name : Str} {apos pos : Pos} {args : List PySem.Expr} {T id : String} {a : Addr} {ob : Obj} {ds : List D} {d : D} (M : MethOk T name id) (hb : c.B.get? a = some ob) (hc : ob.cls = .type T) (hdi : ob.dict = Option.none)
    (ho : Ev c env n ρ o (.ref a)) (ha : Evs c env n ρ args ds) (h : CallTo c n (.builtin id) (.ref a :: ds) d)
    (hp : (backTo pos (starEach args env)).any (·.1) = false := by rfl)
    (hbase : attributeBase o name env (eval o env) = eval o env := by rfl)
    (hfew : ((backTo pos (starEach args env)).all (fun x => !x.1) && (backToKw pos (keywordEach [] env)).all (fun x => x.1.isSome)
      && decide (args.length + ([] : List Keyword).length + (if ([] : List Keyword).isEmpty then 0 else 1) < 30)) = true := by rfl)
    (hline : (apos.endLine == pos.line) = true := by rfl) :
    Ev c env n ρ (.Call (.Attribute o name apos) args [] pos) d := by
  intro A s R I S
  refine wpAny_Call_method_late hbase hfew hline rfl ((ho A s R I S).use fun v s₁ x r => ?_)
  cases r
  have e := x.inv.base _ _ hb
  refine ⟨T, id, M.pa, M.slot, M.ty, ⟨_, e, hc⟩, fun b q => by cases q; exact ⟨_, e, hdi⟩, ?_⟩
  refine Calls.callWith_builtin hp (evalArgs_all hp (wpAny_mono (ha A s₁ pos R x.inv (S.ext x.ext)) (fun vs s₂ y => ?_) fun _ _ z => z))
  exact Gives.after (x.trans y.1) (h A s₂ _ R y.1.inv (.cons (.ref _) y.2))

/-! ## A call with one keyword -/
def CallKw (c : Cx) (n : Nat) (f : Value) (ds : List D) (k : Str) (dk d : D) : Prop :=
  ∀ A s vs u, Room A n → Inv c s.heap s.toks → Reps c.X s.heap vs ds → Rep c.X s.heap u dk → Gives c A (call f vs [(k, u)]) d s
theorem CallKw.fn {c : Cx} {f : Addr} {fd : FuncData} {body : List Stmt} {n : Nat} {ds : List D} {k : Str} {dk d : D} (names : List Str) (ok : FnOk c f fd body) (hl : names.length = ds.length + 1)
    (hbind : ∀ (vs : List Value) (u : Value), vs.length + 1 = names.length → bindArgs fd ⟨vs, [(k, u)]⟩ = pure (names.zip (vs ++ [u]))) (hnd : names.Nodup) (hh : (Str.ofString "_headers") ∉ names)
    (hkind : ∀ x ∈ names, fd.scope.names.lookup x = some .local ∨ (fd.scope.names.lookup x = some .cell ∧ ∀ k, ((cellsFrom k fd.scope.names []).lookup x).isSome = true))
    (hb : ∀ L s, FnEnv c (callEnvC fd L f) s → Ex c (callEnvC fd L f) s n (names.zip (ds ++ [dk])) body (RetP c s d)) : CallKw c (n + 1) (.ref f) ds k dk d := by
  intro A s vs u R I r ru
  refine wpAny_call ?_
  have e : (⟨vs, [(k, u)]⟩ : Args) = ⟨(vs ++ [u]).take ((vs ++ [u]).length - [(k, u)].length), [(k, u)]⟩ := by simp
  rw [e]
  refine call_fn ok R I (r.snoc ru) (by simp [hl]) ?_ hnd hh hkind (fun L F => hb L s F) fun fl s' q => ?_
  · rw [← e]; exact hbind vs u (by rw [r.length, hl])
  · obtain ⟨v, rfl, st, rp⟩ := q
    exact ⟨st, rp⟩

/-- «self.m(e, k=..)» -/
theorem Ev.methI {c : Cx} (G : Good c) {env : Env} {n : Nat} {ρ : Vars} {o e : PySem.Expr} {es : List PySem.Expr} {name k : Str} {apos pos kp : Pos} {ek : PySem.Expr} {f : Addr} {ps : List (Str × Str)} {ds : List D} {dk d : D} (hf : findIn c.K (.ref 218) name = some (some (.ref f))) (ht : typeIn c.K (.ref f) = some (.type "function")) (hkp : keepIn c.K (.ref f) = true)
    (hno : name ≠ "_headers") (ho : Ev c env n ρ o (.hdr ps)) (ha : Evs c env n ρ (e :: es) ds) (hek : Ev c env n ρ ek dk) (h : CallKw c n (.ref f) (.hdr ps :: ds) k dk d)
    (he : ∀ kw : List Keyword, kw = [⟨some k, ek, kp⟩] → eval (.Call (.Attribute o name apos) (e :: es) kw pos) env = (do
      let ov ← eval o env
      standAt apos.atName
      let (f, first) ← holding [ov] (getMethod ov name (do return (← importBound o env).getD true))
      callWith pos f first (backTo pos (starEach (e :: es) env)) (backToKw pos (keywordEach kw env))) := by (intro kw hkw; subst hkw; rfl))
    (hse : starEach (e :: es) env = (false, eval e env) :: starEach es env := by rfl)
    (hpl : ((backTo pos (starEach (e :: es) env)).any (·.1) || (backToKw pos (keywordEach [⟨some k, ek, kp⟩] env)).any (·.1.isNone)) = false := by rfl) :
    Ev c env n ρ (.Call (.Attribute o name apos) (e :: es) [⟨some k, ek, kp⟩] pos) d := by
  intro A s R I S
  refine methodCall_KW ((ho A s R I S).use fun v s₁ x r => ?_) (he _ rfl)
  obtain ⟨a, dd, ees, ep, l, vs, m, rfl, H⟩ := r.isHdr
  refine method_fn x.inv.K H.inst (k_ga G) (k_gx G) hf ht ?_ ?_
  · show (lookIn name (PySem.W.dictOf ees ep)).map _ = _
    rw [lookIn_dict, H.no name hno]; rfl
  · refine callWith_KW (h₀ := c.B) c.KB hkp rfl ?_ hpl hse
    refine wpAny_mono (ha A s₁ pos R x.inv (S.ext x.ext)) (fun ws s₂ y => ?_) fun _ _ z => z
    refine kwAll_cons ((hek A s₂ R y.1.inv ((S.ext x.ext).ext y.1.ext)).use fun u s₃ z ru => kwAll_nil ⟨z.inv.K, ?_⟩)
    exact Gives.after ((x.trans y.1).trans z) (h A s₃ _ u R z.inv (.cons ((r.ext y.1.ext).ext z.ext) (y.2.ext z.ext)) ru)
/-- «self.m(e)» -/
theorem Ev.methJ {c : Cx} (G : Good c) {env : Env} {n : Nat} {ρ : Vars} {o e : PySem.Expr} {es : List PySem.Expr} {name : Str} {apos pos : Pos} {f : Addr} {ps : List (Str × Str)} {ds : List D} {d : D} (hf : findIn c.K (.ref 218) name = some (some (.ref f))) (ht : typeIn c.K (.ref f) = some (.type "function")) (hkp : keepIn c.K (.ref f) = true)
    (hno : name ≠ "_headers") (ho : Ev c env n ρ o (.hdr ps)) (ha : Evs c env n ρ (e :: es) ds) (h : CallTo c n (.ref f) (.hdr ps :: ds) d)
    (he : eval (.Call (.Attribute o name apos) (e :: es) [] pos) env = (do
      let ov ← eval o env
      standAt apos.atName
      let (f, first) ← holding [ov] (getMethod ov name (do return (← importBound o env).getD true))
      callWith pos f first (backTo pos (starEach (e :: es) env)) (backToKw pos (keywordEach [] env))) := by rfl)
    (hse : starEach (e :: es) env = (false, eval e env) :: starEach es env := by rfl)
    (hpl : (backTo pos (starEach es env)).any (·.1) = false := by rfl) :
    Ev c env n ρ (.Call (.Attribute o name apos) (e :: es) [] pos) d := by
  intro A s R I S
  refine methodCall_KW ((ho A s R I S).use fun v s₁ x r => ?_) he
  obtain ⟨a, dd, ees, ep, l, vs, m, rfl, H⟩ := r.isHdr
  refine method_fn x.inv.K H.inst (k_ga G) (k_gx G) hf ht ?_ ?_
  · show (lookIn name (PySem.W.dictOf ees ep)).map _ = _
    rw [lookIn_dict, H.no name hno]; rfl
  · refine callWith_K (h₀ := c.B) c.KB hkp ?_ hse hpl
    refine wpAny_mono (ha A s₁ pos R x.inv (S.ext x.ext)) (fun ws s₂ y => ⟨y.1.inv.K, ?_⟩) fun _ _ z => z
    exact Gives.after (x.trans y.1) (h A s₂ _ R y.1.inv (.cons (r.ext y.1.ext) y.2))

/-! ## Headers' methods -/
theorem type_is {c : Cx} {env : Env} {n : Nat} {ρ : Vars} {e : PySem.Expr} {p1 p2 : Pos} {T : String} {d : D} {A : Around} {s : Shared} {Q : Value → Shared → Prop} {E : Value → Shared → Prop} (K : EnvOk env) (G : Good c) (hk : env.kindOf "type" = some .globalImplicit) (R : Room A n) (I : Inv c s.heap s.toks) (S : St c.X env ρ s.heap) (he : Ev c env n ρ e d) (kd : KindIs d T)
    (hnb : (Value.type T == Value.type "builtin_function_or_method") = false) (h : ∀ s', Stp c s s' → Q (.type T) s')
    (hs : starEach [e] env = (false, eval e env) :: starEach [] env := by rfl) (hp : (backTo p2 (starEach [] env)).any (·.1) = false := by rfl) : wpAny c.M A (eval (.Call (.Name "type" p1) [e] [] p2) env) Q E s := by
  show wpAny c.M A (do callWith p2 (← eval (.Name "type" p1) env) [] (backTo p2 (starEach [e] env)) (backToKw p2 (keywordEach [] env))) _ _ s
  refine wpAny_bind (ld_glob K I hk (g_type G) ?_)
  refine callWith_type1 (wpAny_mono ((Evs.cons he Evs.nil hs) A s p2 R I S) (fun vs s₁ y => ?_) fun _ _ z => z.elim) hs hp
  obtain ⟨v, rfl, rv⟩ := one_of y.2
  exact call_type_of (kd c.X s₁ v rv).1 hnb (h s₁ y.1)
theorem Tru.typeIs {c : Cx} {env : Env} {n : Nat} {ρ : Vars} {e : PySem.Expr} {p1 p2 p3 pos : Pos} {T : String} {nm : Str} {d : D} (K : EnvOk env) (G : Good c) (hk : env.kindOf "type" = some .globalImplicit) (hk' : env.kindOf nm = some .globalImplicit) (g : GlobIs c nm (.type T)) (he : Ev c env n ρ e d) (kd : KindIs d T)
    (hnb : (Value.type T == Value.type "builtin_function_or_method") = false := by decide)
    (hs : starEach [e] env = (false, eval e env) :: starEach [] env := by rfl) (hp : (backTo p2 (starEach [] env)).any (·.1) = false := by rfl) (hd : (nm == ("__debug__" : Str)) = false := by decide) (hm : behindInMarks .Is (.Name nm p3) = false := by with_unfolding_all rfl) :
    Tru c env n ρ (.Compare (.Call (.Name "type" p1) [e] [] p2) [.Is] [.Name nm p3] pos) true := by
  intro A s R I S
  refine wpAny_isTrue_Compare1 (type_is K G hk R I S he kd hnb (fun s' st => ld_glob K st.inv hk' g ?_ hd) hs hp) hm
  exact wpAny_is_self rfl (wpAny_truthy_bool ⟨st, rfl⟩)
theorem Tru.typeIsNot {c : Cx} {env : Env} {n : Nat} {ρ : Vars} {e : PySem.Expr} {p1 p2 p3 pos : Pos} {T : String} {nm : Str} {d : D} (K : EnvOk env) (G : Good c) (hk : env.kindOf "type" = some .globalImplicit) (hk' : env.kindOf nm = some .globalImplicit) (g : GlobIs c nm (.type T)) (he : Ev c env n ρ e d) (kd : KindIs d T)
    (hnb : (Value.type T == Value.type "builtin_function_or_method") = false := by decide)
    (hs : starEach [e] env = (false, eval e env) :: starEach [] env := by rfl) (hp : (backTo p2 (starEach [] env)).any (·.1) = false := by rfl) (hd : (nm == ("__debug__" : Str)) = false := by decide) (hm : behindInMarks .IsNot (.Name nm p3) = false := by with_unfolding_all rfl) :
    Tru c env n ρ (.Compare (.Call (.Name "type" p1) [e] [] p2) [.IsNot] [.Name nm p3] pos) false := by
  intro A s R I S
  refine wpAny_isTrue_Compare1 (type_is K G hk R I S he kd hnb (fun s' st => ld_glob K st.inv hk' g ?_ hd) hs hp) hm
  exact wpAny_isNot_self rfl (wpAny_truthy_bool ⟨st, rfl⟩)

theorem call_conv {c : Cx} (G : Good c) {n : Nat} {d₀ : D} {x : Str} {b : Bool} (hx : clean c.K x = true) : CallKw c (n + 1) (.ref 119) [d₀, .str x] "name" (.bool b) (.str x) := by
  unfold clean at hx
  simp only [Bool.and_eq_true, decide_eq_true_eq] at hx
  obtain ⟨⟨h1, h2⟩, h3⟩ := hx
  refine CallKw.fn [Str.ofString "self", Str.ofString "value", Str.ofString "name"] (FnOk.of (by rw [G.K]; rfl) rfl (by rw [G.K]; rfl) rfl rfl rfl rfl rfl rfl rfl rfl rfl) rfl ?_ ?_ ?_ ?_ ?_
  · intro vs u h
    match vs, h with
    | [a, b], _ => rfl
  · decide
  · decide
  · intro x hx
    simp only [List.mem_cons, List.not_mem_nil, or_false] at hx
    rcases hx with rfl | rfl | rfl <;> exact .inl rfl
  · intro L s FF
    have F := FF.toFrm
    have K := FF.toEnvOk
    refine Ex.if_ (b := true) (Tru.typeIs K G rfl rfl (g_str G) (by walk_at "mE") KindIs.str) (fun _ => ?_) (fun h => by cases h)
    obtain ⟨fs, T, ws, m, q1, q2⟩ := (pat92 G).ex
    obtain ⟨fs', T', ws', m', q1', q2'⟩ := (pat97 G).ex
    cases b with
    | true =>
      refine Ex.assign (d := .ref 92) F NmOk.loc (Ev.ifExp (b := true) (Tru.value (by walk_at "mE") Truthy.bool) (fun _ => Ev.globR K rfl (g_nre G)) (fun h => by cases h)) ?_
      refine Ex.if_ (b := false) (Tru.value (Ev.methK m_search q1 rfl rfl (by walk_at "mE") (by walk_at "mEs") (search_no (pat92 G) h1 h2)) Truthy.none) (fun h => by cases h) (fun _ => ?_)
      refine Ex.nil fun s' S => ⟨_, S, ?_⟩
      exact Ex.ret (d := .str x) (by walk_at "mE") fun v s' S r => ⟨v, rfl, S.stp, r⟩
    | false =>
      refine Ex.assign (d := .ref 97) F NmOk.loc (Ev.ifExp (b := false) (Tru.value (by walk_at "mE") Truthy.bool) (fun h => by cases h) (fun _ => Ev.globR K rfl (g_vre G))) ?_
      refine Ex.if_ (b := false) (Tru.value (Ev.methK m_search q1' rfl rfl (by walk_at "mE") (by walk_at "mEs") (search_no (pat97 G) h1 h3)) Truthy.none) (fun h => by cases h) (fun _ => ?_)
      refine Ex.nil fun s' S => ⟨_, S, ?_⟩
      exact Ex.ret (d := .str x) (by walk_at "mE") fun v s' S r => ⟨v, rfl, S.stp, r⟩

theorem m_lower : MethOk "str" "lower" "str.lower" := ⟨F.plainAttrs_str, F.slot_str_lower, F.type_str_lower⟩
theorem m_upper : MethOk "str" "upper" "str.upper" := ⟨F.plainAttrs_str, F.slot_str_upper, F.type_str_upper⟩
/-- a text that may be turned to small ones -/
def lowOk (x : Str) : Bool := !Builtin.Str.tooLong (lowerS x).cps.size
def gotAll (ps : List (Str × Str)) (q : Str) : List Str := (ps.filter fun p => lowerS p.1 == lowerS q).map (·.2)

theorem call_all {c : Cx} (G : Good c) {n : Nat} {ps : List (Str × Str)} {q : Str} (hq : lowOk q = true) (hc : clean c.K (lowerS q) = true) (hps : ∀ p ∈ ps, lowOk p.1 = true) (hl : ps.length ≤ 1000) : CallTo c (n + 10) (.ref 157) [.hdr ps, .str q] (.lst Option.none ((gotAll ps q).map D.str)) := by
  refine CallTo.fn [Str.ofString "self", Str.ofString "name"] (FnOk.of (by rw [G.K]; rfl) rfl (by rw [G.K]; rfl) rfl rfl rfl rfl rfl rfl rfl rfl rfl) rfl ?_ ?_ ?_ ?_ ?_
  · intro vs h
    match vs, h with
    | [a, b], _ => rfl
  · decide
  · decide
  · intro x hx
    simp only [List.mem_cons, List.not_mem_nil, or_false] at hx
    rcases hx with rfl | rfl
    · exact .inl rfl
    · exact .inr ⟨rfl, fun _ => rfl⟩
  · intro L s FF
    have F := FF.toFrm
    have K := FF.toEnvOk
    have hq' : Builtin.Str.tooLong (lowerS q).cps.size = false := by simpa [lowOk] using hq
    refine Ex.assign (d := .str (lowerS q)) F (by walk_at "mN") (Ev.methI G (k_conv G) (k_t119 G) (k_k119 G) (by decide) (by walk_at "mE") (Evs.cons (Ev.meth m_lower KindIs.str (by walk_at "mE") Evs.nil (CallTo.lower hq')) Evs.nil) Ev.bool (call_conv G (n := n + 8) hc)) ?_
    have e : (gotAll ps q).map D.str = (ps.filter fun p => lowerS p.1 == lowerS q).map fun p => D.str p.2 := by unfold gotAll; rw [List.map_map]; rfl
    rw [e]
    refine Ex.back (Ev.comp (cl := _) K F.apart ⟨by rfl, by rfl, ?_, ?_, ?_⟩ (Src.lst (Ev.hdrs G (by walk_at "mE"))) (CRun.cond ps pairD (fun p => .str p.2) (fun p => lowerS p.1 == lowerS q) ?_ ?_ ?_ hl ?_ ?_ ?_ ?_))
    · decide
    · decide
    · walk_at "mK"
    · intro L; rfl
    · decide
    · rfl
    · intro y _; rfl
    · intro y _; rfl
    · intro acc L s₀ F' y hy
      have K' := F'.toEnvOk
      have hy' : Builtin.Str.tooLong (lowerS y.1).cps.size = false := by simpa [lowOk] using hps y hy
      exact Tru.cmp (Ev.meth m_lower KindIs.str (Ev.itm (d₀ := .tup [.str y.1, .str y.2]) (Ev.name K' rfl) Ev.int Getter.tup (Itm.tup (by decide) (by decide) rfl)) Evs.nil (CallTo.lower hy')) (by walk_at "mE") Cmp.eqS
    · intro acc L s₀ F' y hy hb
      have K' := F'.toEnvOk
      exact Ev.itm (d₀ := .tup [.str y.1, .str y.2]) (Ev.name K' rfl) Ev.int Getter.tup (Itm.tup (by decide) (by decide) rfl)

/-! ## The class is called -/
theorem Room.made {A : Around} {n : Nat} {C : Addr} {rest : List Value} (r : Room A (n + 1)) : Room (A.under (.builtin "type.__call__" ⟨.ref C :: rest, []⟩)) n := by
  have hw : (Code.builtin "type.__call__" ⟨.ref C :: rest, []⟩).weight ≤ 1 := by
    first | (show (0 : Nat) ≤ 1; exact Nat.zero_le 1) | exact Nat.le_of_ble_eq_true rfl
  have hu : (Code.builtin "type.__call__" ⟨.ref C :: rest, []⟩).cUnits = 1 := rfl
  refine ⟨r.hd, ?_, ?_⟩
  · have := r.dp
    show A.depth + (Code.builtin "type.__call__" ⟨.ref C :: rest, []⟩).weight + n < _
    omega
  · have := r.un
    show A.units + (Code.builtin "type.__call__" ⟨.ref C :: rest, []⟩).cUnits + 10 * n < _
    omega

/-- a thing's own dict takes a store -/
theorem osa_exact {prog : Program} {w : World} {A : Around} {R : Result → Shared → Prop} {s : Shared} {K : Frag} {x C dx : Addr} {es es' : List DictEntry} {n : Nat} {name : Str} {tk : Tok} {v : Value} {cd : ClassData} (X : K.In s.heap)
    (I : InstAt s.heap x ⟨.ref C, some dx, .plain, #[]⟩ C (some (PySem.W.dictOf es n))) (hp : plainOver K C = true) (ht : takerIn K C name = some none) (hc : clsIn K C = some cd) (hd : cd.hasDict = true) (hl : getL name es = some none)
    (he : putL name (PyData.keyHash w.params name) (.str name s.toks) v es = es') (hz : es'.length ≤ 1000)
    (h : ∀ h' n', h'.get? dx = some (PySem.W.dictOf es' n') → Heap.SameBut dx s.heap h' → R (.ok (.ret .none)) { s with heap := h', toks := s.toks + 1 }) :
    codeAny (model prog w) A (.call (.builtin "object.__setattr__") ⟨[.ref x, .str name tk, v], []⟩) R s := by
  refine osa_open X I hp ht fun b => ?_
  have D : s.heap.get? dx = some (PySem.W.dictOf es n) := I.dict
  have hput : Obj.putName name (PyData.keyHash w.params name) (.str name s.toks) v (PySem.W.dictOf es n) = PySem.W.dictOf es' (putN name es n) := by rw [putName_dict, he]
  have D' : (s.heap.update dx (Obj.putName name (PyData.keyHash w.params name) (.str name s.toks) v)).get? dx = some (PySem.W.dictOf es' (putN name es n)) := by
    rw [Heap.get?_update_self _ D (by rw [hput]; rfl), hput]
  refine wpAny_bind (wpAny_pure (wpAny_bind (wpAny_bind (wpAny_loadPart I.at_ (wpAny_bind ((looks_clsIn X hc).here ?_))))))
  rw [hd]
  refine wpAny_pure (a := some dx) (wpAny_bind (wpAny_pure (wpAny_bind ?_)))
  unfold nsSet
  refine wpAny_bind (wpAny_bind (wpAny_askSetting (wpAny_pure (wpAny_bind (wpAny_mkText (wpAny_bind (wpAny_loadPart D ?_)))))))
  dsimp only
  have hno : es.any (·.refKey) = false := by
    unfold getL at hl
    split at hl
    · cases hl
    · split at hl
      · cases hl
      · rename_i z; simpa using z
  have c : (!es.toArray.any (·.key.isStr name) && es.toArray.any (·.refKey)) = false := by
    rw [List.any_toArray, List.any_toArray, hno, Bool.and_false]
  rw [aRefKeyMayBeTheName_at, c]
  refine wpAny_updatePart D ?_
  refine wpAny_bind (wpAny_lookBehind D' (pastItsLine_dict (by rw [List.size_toArray]; exact Nat.le_trans hz (by decide))) ?_)
  exact wpAny_pure (h _ _ D' (Heap.SameBut.update ..))

theorem Cmp.isNotNone {c : Cx} {n : Nat} {t : Option Addr} {ds : List D} : Cmp c n .IsNot (.lst t ds) .none (.bool true) := by
  intro A s v₁ v₂ R I r₁ r₂
  cases r₂
  cases r₁
  exact wpAny_isNot_other rfl (by intro h; cases h) ⟨.refl I, .bool _⟩

/-- a local name's datum told anew -/
theorem St.retell {X : List Addr} {env : Env} {ρ : Vars} {h : Heap} {x : Str} {d₀ d : D} (S : St X env ρ h) (hx : ρ.lookup x = some d₀) (hv : ∀ v, Rep X h v d₀ → Rep X h v d) : St X env ((x, d) :: ρ) h := by
  obtain ⟨⟨m, hn, hm, hl⟩, hc, ho, hk'⟩ := S
  have look : ∀ y d', ((x, d) :: ρ).lookup y = some d' → (y = x ∧ d' = d) ∨ ρ.lookup y = some d' := by
    intro y d' e
    rw [List.lookup_cons] at e
    cases q : y == x with
    | true => rw [q] at e; cases e; exact .inl ⟨eq_of_beq q, rfl⟩
    | false => rw [q] at e; exact .inr e
  refine ⟨⟨m, hn, hm, fun y d' e k => ?_⟩, fun y d' e k => ?_, ho, fun y d' e => ?_⟩
  · rcases look y d' e with ⟨rfl, rfl⟩ | e'
    · obtain ⟨v, h1, h2⟩ := hl y d₀ hx k
      exact ⟨v, h1, hv v h2⟩
    · exact hl y d' e' k
  · rcases look y d' e with ⟨rfl, rfl⟩ | e'
    · obtain ⟨a, v, h1, h2, h3⟩ := hc y d₀ hx k
      exact ⟨a, v, h1, h2, hv v h3⟩
    · exact hc y d' e' k
  · rcases look y d' e with ⟨rfl, rfl⟩ | e'
    · exact hk' y d₀ hx
    · exact hk' y d' e'

/-- «f(..)» as a statement, its value a plain one -/
theorem Ex.expr {c : Cx} {env : Env} {s₀ : Shared} {n : Nat} {ρ : Vars} {e : PySem.Expr} {pos : Pos} {x : Str} {rest : List Stmt} {P : Flow → Shared → Prop} (h : Ev c env n ρ e (.str x)) (hr : Ex c env s₀ n ρ rest P)
    (hi : interactive env = false := by rfl) (hs : swapsWith e Option.none pos.line env = pure false := by rfl) : Ex c env s₀ n ρ (.Expr e pos :: rest) P := by
  intro A s R S
  refine wpAny_execs_cons (wpAny_Expr ((h A s R S.inv S.st).use fun v s₁ st r => ?_) hi hs)
  obtain ⟨t, rfl⟩ := r.isStr
  exact wpAny_mono (hr A s₁ R (S.step st)) (fun _ _ q => ⟨(Fram.of_ext st.ext).trans q.1, q.2⟩) fun _ _ z => z

/-- the body is run, and what stood ahead of the call is known -/
theorem call_fnS {c : Cx} {f : Addr} {fd : FuncData} {body : List Stmt} {names : List Str} {ds : List D} {vs : List Value} {n : Nat} {A : Around} {s₀ s : Shared} {R' : Result → Shared → Prop} (hf : ∃ o, c.B.get? f = some o ∧ o.data = .func fd) (ok : FnKind fd body) (clo0 : fd.closure = []) (R : Room A (n + 1)) (I : Inv c s.heap s.toks) (hI₀ : ∀ a, s₀.heap.get? a = none → c.B.get? a = none)
    (ext : Ext s₀.heap s.heap) (sh : s = { s₀ with heap := s.heap, toks := s.toks }) (code : c.B.CodeRec fd.code fd.qualname)
    (r : Reps c.X s.heap vs ds) (hl : names.length = ds.length) (hbind : BindsTo s fd ⟨vs, []⟩ (names.zip vs)) (hnd : names.Nodup) (hh : (Str.ofString "_headers") ∉ names) (hkind : ∀ x ∈ names, fd.scope.names.lookup x = some .local)
    (hb : ∀ L s', s.heap.get? L = none → Frm c (cloEnv fd L f) s₀ → Room (A.deeper (cloEnv fd L f)) n → Sta c (cloEnv fd L f) s₀ (names.zip ds) s' → (∀ b o, s.heap.get? b = some o → s'.heap.get? b = some o) →
      (∃ m, s'.heap.Ns L m ∧ ∀ x v, (names.zip vs).lookup x = some v → m x = some v) →
      wpAny c.M (A.deeper (cloEnv fd L f)) (execs body (cloEnv fd L f)) (fun fl s'' => R' (.ok (.ret (match fl with | .ret v => v | _ => .none))) s'') Never s') :
    codeAny c.M A (.call (.ref f) ⟨vs, []⟩) R' s := by
  obtain ⟨o, e1, e2⟩ := hf
  refine codeAny_call_function R.depthLt (I.base _ _ e1) e2 ok.co ok.gen ok.body (code.keeps I.base) ?_
  have hkeys : (names.zip vs).map (·.1) = names := by
    rw [List.map_fst_zip]
    rw [r.length, hl]; exact Nat.le_refl _
  refine hbind _ _ _ _ (wpAny_newFunctionEnv ok.nc (fun x hx => hkind x.1 (hkeys ▸ List.mem_map_of_mem hx)) (fun h' hns hsb => ?_) ok.kind)
  have hlim : s.heap.NoLimit := c.lim.keeps I.base
  have hLn : s.heap.get? s.heap.objs.size = none := get?_size _
  have keep : ∀ b o, s.heap.get? b = some o → h'.get? b = some o := fun b o e => (hsb.2 b (fun q => by rw [q, hLn] at e; cases e)).trans (Heap.get?_push_of_some _ e)
  refine ⟨hlim.keeps keep, codeAny_func ?_⟩
  have x' : Ext s.heap h' := .of_keep keep
  have F : Frm c (cloEnv fd s.heap.objs.size f) s₀ := ⟨⟨ok.kind, ok.glob, ok.blt⟩, ext.none hLn, hI₀, fun x y a h => by
    have : fd.closure.lookup x = some a := h
    rw [clo0] at this; cases this⟩
  have inNames : ∀ {y v}, (names.zip vs).lookup y = some v → y ∈ names := fun w1 => by
    have := List.mem_map_of_mem (f := (·.1)) (mem_of_lookup w1)
    rw [hkeys] at this; exact this
  have S : Sta c (cloEnv fd s.heap.objs.size f) s₀ (names.zip ds) { s with heap := h', toks := s.toks + (names.zip vs).length } := by
    refine ⟨I.keeps keep (by show s.toks ≤ s.toks + _; omega), ext.trans x', ⟨⟨_, hns, ?_, fun y d e k => ?_⟩, fun y d e k => ?_, fun y a e => ?_, fun y d e => ?_⟩, by rw [sh]⟩
    · rw [List.lookup_eq_none_iff]
      intro p hp
      rw [bne_iff_ne]
      intro q
      have := List.mem_map_of_mem (f := (·.1)) (List.mem_reverse.mp hp)
      rw [hkeys] at this
      exact hh (q ▸ this)
    · obtain ⟨v, w1, w2⟩ := zip_look r e
      exact ⟨v, rev_look (by rw [hkeys]; exact hnd) w1, w2.ext x'⟩
    · obtain ⟨v, w1, w2⟩ := zip_look r e
      have k1 := hkind y (inNames w1)
      have k' : fd.scope.names.lookup y = some .cell ∨ fd.scope.names.lookup y = some .free := k
      rw [k1] at k'; rcases k' with k' | k' <;> cases k'
    · have : fd.closure.lookup y = some a := e
      rw [clo0] at this; cases this
    · obtain ⟨v, w1, w2⟩ := zip_look r e
      exact .inl (hkind y (inNames w1))
  refine wpAny_mono (hb _ _ hLn F R.deeper S keep ⟨_, hns, fun x v e => rev_look (by rw [hkeys]; exact hnd) e⟩) (fun fl s' q => ?_) fun _ _ z => z.elim
  exact q

theorem HdrAt.fram {c : Cx} {env : Env} {s s' : Shared} {s₀ : Shared} {ρ : Vars} {a d l : Addr} {ps : List (Str × Str)} {es : List DictEntry} {ep n : Nat} {vs : List Value} (H : HdrAt c.X s.heap a ps d es ep l vs n) (f : Fram c env s s') (S : Sta c env s₀ ρ s) (hd : d ≠ env.locals) (hc : ∀ y b, env.cells.lookup y ≠ some b) : HdrAt c.X s'.heap a ps d es ep l vs n := by
  obtain ⟨I, h1, h2, h3, h4, h5⟩ := H
  have nw : ∀ b o, s.heap.get? b = some o → (∀ vs n, o ≠ lstObj vs n) → b ≠ env.locals → ¬ Writes c env b := by
    rintro b o e hn hb (w | ⟨y, w, _⟩ | w)
    · exact hb w
    · exact hc y b w
    · obtain ⟨vs, n, e'⟩ := S.inv.av b w
      rw [e] at e'; cases e'
      exact hn _ _ rfl
  have ns : ∀ b o, s.heap.get? b = some o → (∀ es ep, o.data ≠ .dict es ep) → b ≠ env.locals := by
    rintro b o e hn rfl
    obtain ⟨m, ⟨o', es, ep, e1, e2, _⟩, _⟩ := S.st.loc
    rw [e] at e1; cases e1
    exact hn _ _ e2
  have ka : s'.heap.get? a = some (hdrObj d) := f a _ I.at_ rfl (nw a _ I.at_ (fun vs n q => by injection q with q1 q2 q3; cases q1) (ns a _ I.at_ fun es ep q => by cases q))
  have kd : s'.heap.get? d = some (PySem.W.dictOf es ep) := f d _ I.dict rfl (nw d _ I.dict (fun vs n q => by injection q with q1 q2 q3; cases q3) hd)
  have kl : s'.heap.get? l = some (lstObj vs n) := f l _ h3 rfl (by
    rintro (w | ⟨y, w, _⟩ | w)
    · exact ns l _ h3 (fun es ep q => by cases q) w
    · exact hc y l w
    · exact h4 w)
  refine ⟨⟨ka, rfl, rfl, kd⟩, h1, h2, kl, h4, ?_⟩
  have key : ∀ {vs : List Value} {l : List (Str × Str)}, Pairs s.heap vs l → Pairs s'.heap vs l := by
    intro vs l p
    induction p with
    | nil => exact .nil
    | cons e _ ih => exact .cons (f _ _ e rfl (nw _ _ e (fun vs n q => by simp [tupObj, lstObj] at q) (ns _ _ e fun es ep q => by cases q))) ih
  exact key h5
theorem empty_harmless {h : Heap} {dx : Addr} (kd : h.get? dx = some emptyDict) : ∀ o, h.get? dx = some o → harmless o := fun o e => by
  rw [kd] at e; cases e
  show ((#[] : Array DictEntry).any fun x => x.key.isStr (Str.ofString "_headers")) = false
  simp
theorem Sta.stored {c : Cx} {env : Env} {s₀ s : Shared} {ρ : Vars} {x : Str} {d₀ d : D} {dx : Addr} {h' : Heap} {tk : Nat} (F : Frm c env s₀) (S : Sta c env s₀ ρ s) (hn0 : s₀.heap.get? dx = none) (kd : s.heap.get? dx = some emptyDict) (sb : Heap.SameBut dx s.heap h') (ndx : dx ≠ env.locals)
    (hc : ∀ y b, env.cells.lookup y ≠ some b) (hx : ρ.lookup x = some d₀) (hv : ∀ v, Rep c.X h' v d₀ → Rep c.X h' v d) (htk : s.toks ≤ tk) : Sta c env s₀ ((x, d) :: ρ) { s with heap := h', toks := tk } := by
  refine ⟨S.inv.chg sb.extBut (F.base _ hn0) (fun o e => by rw [kd] at e; cases e; rfl) (fun hX => ?_) htk, ext_same S.ext hn0 sb.extBut, (S.st.chg sb.extBut (empty_harmless kd) ndx (fun y b e => absurd e (hc y b))).retell hx hv, by rw [S.sh]⟩
  obtain ⟨_, _, e⟩ := S.inv.av _ hX
  rw [kd] at e; simp [emptyDict, lstObj] at e
theorem HdrAt.rep {X : List Addr} {h : Heap} {a d l : Addr} {ps : List (Str × Str)} {es : List DictEntry} {ep n : Nat} {vs : List Value} (H : HdrAt X h a ps d es ep l vs n) : Rep X h (.ref a) (.hdr ps) :=
  .hdr H.inst.at_ H.inst.dict H.here H.no H.lst H.off H.ps

theorem call_hdr {c : Cx} (G : Good c) {n : Nat} {ps : List (Str × Str)} (hps : ∀ p ∈ ps, clean c.K p.1 = true ∧ clean c.K p.2 = true) (hl : ps.length ≤ 1000) : CallTo c (n + 10) (.ref 218) [.lst Option.none (ps.map pairD)] (.hdr ps) := by
  intro A s vs R I r
  obtain ⟨v, rfl, rv⟩ := one_of r
  refine wpAny_call ?_
  obtain ⟨hh, g, d, t, os⟩ := s
  refine make_core (makes_of I.K (k_makes G)) (looks_findIn I.K (k_init G)) (fun self => bind_fn I.K self (k_t112 G)) (.inl rfl) ?_
  generalize hdx : hh.objs.size = dx
  have e1 : Ext hh (hh.push emptyDict) := .push _ _
  have e2 : Ext (hh.push emptyDict) ((hh.push emptyDict).push (instObj 218 dx)) := .push _ _
  have kd : ((hh.push emptyDict).push (instObj 218 dx)).get? dx = some emptyDict := by
    rw [← hdx]; exact Heap.get?_push_of_some _ (Heap.get?_push_size _ rfl)
  have kx : ((hh.push emptyDict).push (instObj 218 dx)).get? (dx + 1) = some (instObj 218 dx) := by
    have : (hh.push emptyDict).objs.size = dx + 1 := by rw [Heap.size_push, hdx]
    rw [← this]; exact Heap.get?_push_size _ rfl
  have hn0 : hh.get? dx = none := by rw [← hdx]; exact get?_size _
  have I' : Inv c ((hh.push emptyDict).push (instObj 218 dx)) t := (I.push _).push _
  have rv' : Rep c.X ((hh.push emptyDict).push (instObj 218 dx)) v (.lst Option.none (ps.map pairD)) := (rv.ext e1).ext e2
  have hX : (Str.ofString "_headers") ∉ [Str.ofString "self", Str.ofString "headers"] := by decide
  refine call_fnS (c := c) (f := 112) (names := [Str.ofString "self", Str.ofString "headers"]) (ds := [.ref (dx + 1), .lst Option.none (ps.map pairD)]) (vs := [.ref (dx + 1), v]) (n := n + 8) (s₀ := ⟨hh, g, d, t, os⟩)
    ⟨_, c.KB 112 _ (by rw [G.K]; rfl), rfl⟩ (by exact ⟨rfl, rfl, rfl, rfl, rfl, rfl, rfl⟩) (by rfl) R.made I' (fun a e => I.fresh e) (e1.trans e2) rfl ⟨_, _, _, _, rfl, c.KB _ _ (by rw [G.K]; rfl), rfl, rfl⟩ (.cons (.ref _) (.cons rv' .nil)) rfl
    (BindsTo.of_defaults rfl (I'.base _ _ (c.KB _ _ (by rw [G.K]; rfl))) rfl rfl rfl) (by decide) hX ?_ ?_
  · intro x hx
    simp only [List.mem_cons, List.not_mem_nil, or_false] at hx
    rcases hx with rfl | rfl <;> rfl
  · intro L s' hL F R' S keep hmv
    have K := F.toEnvOk
    generalize hA : (Around.deeper _ _) = A' at R' ⊢
    have kd' := keep _ _ kd
    have kx' := keep _ _ kx
    have hL' : ((hh.push emptyDict).push (instObj 218 dx)).get? L = none := hL
    have ndx : dx ≠ L := fun q => by rw [q] at kd; rw [q] at hL'; exact absurd (kd.symm.trans hL') (by simp)
    have nx : dx + 1 ≠ L := fun q => by rw [q] at kx; exact absurd (kx.symm.trans hL') (by simp)
    -- headers = headers
    refine wpAny_execs_cons (wpAny_Assign_Name (Gives.use (c := c) ((Ev.ifExp (n := n + 8) (ρ := [(Str.ofString "self", .ref (dx + 1)), (Str.ofString "headers", .lst Option.none (ps.map pairD))]) (d := .lst Option.none (ps.map pairD)) (b := true) (Tru.cmp (by walk_at "mE") Ev.none Cmp.isNotNone) (fun _ => by walk_at "mE") (fun h => by cases h)) A' s' R' S.inv S.st) fun v1 s1 st1 r1 => ?_) rfl)
    refine wpAny_mono (store_name (A := A') F (S.step st1) r1 (.inl rfl) (by decide)) (fun _ s2 q2 => ?_) fun _ _ z => z.elim
    obtain ⟨f2, S2⟩ := q2
    have kd2 := f2 dx _ (st1.ext.keep _ _ kd' rfl) rfl ndx (fun ⟨y, hy, _⟩ => by cases hy)
    have kx2 := f2 (dx + 1) _ (st1.ext.keep _ _ kx' rfl) rfl nx (fun ⟨y, hy, _⟩ => by cases hy)
    -- if type(headers) is not list
    refine wpAny_execs_cons (wpAny_If (wpAny_mono ((Tru.typeIsNot (n := n + 8) K G rfl rfl (g_list G) (by walk_at "mE") KindIs.lst) A' s2 R' S2.inv S2.st) (fun b s3 q3 => ?_) fun _ _ z => z.elim))
    obtain ⟨st3, rfl⟩ := q3
    simp only [Bool.false_eq_true, if_false]
    refine wpAny_execs_nil ?_
    dsimp only
    have S3 := S2.step st3
    -- self._headers = headers
    refine wpAny_execs_cons (plainObj_wpAny_Assign_Attribute ?_ rfl)
    refine Gives.use (c := c) (d := .lst Option.none (ps.map pairD)) ((Ev.name (n := n + 8) K rfl) A' s3 R' S3.inv S3.st) fun w4 s4 st4 r4 => ?_
    refine Gives.use (c := c) (d := .ref (dx + 1)) ((Ev.name (n := n + 8) K rfl) A' s4 R' st4.inv (S3.st.ext st4.ext)) fun o5 s5 st5 r5 => ?_
    cases r5
    have S5 := (S3.step st4).step st5
    have kd5 := st5.ext.keep _ _ (st4.ext.keep _ _ (st3.ext.keep _ _ kd2 rfl) rfl) rfl
    have kx5 := st5.ext.keep _ _ (st4.ext.keep _ _ (st3.ext.keep _ _ kx2 rfl) rfl) rfl
    have I5 : InstAt s5.heap (dx + 1) ⟨.ref 218, some dx, .plain, #[]⟩ 218 (some (PySem.W.dictOf [] 0)) := ⟨kx5, rfl, rfl, kd5⟩
    obtain ⟨cd, hcd, hdd⟩ := k_dict G
    refine set_plain S5.inv.K I5 (k_sa G) (osa_exact (s := { s5 with toks := s5.toks + 1 }) (es := []) S5.inv.K I5 (k_plain G) (k_taker G) hcd hdd rfl rfl (by show 1 ≤ 1000; decide) fun h' n' e6 sb6 => ?_)
    -- behind the store
    obtain ⟨l, vs4, n4, rfl, e4, hX4, ps4⟩ : ∃ l vs4 n4, w4 = .ref l ∧ s4.heap.get? l = some (lstObj vs4 n4) ∧ l ∉ c.X ∧ Pairs s4.heap vs4 ps := by
      cases r4 with
      | lst e t q rr => exact ⟨_, _, _, rfl, e, q rfl, rr.pairs⟩
    have hharm := empty_harmless kd5
    have e5 := st5.ext.keep _ _ e4 rfl
    have el : h'.get? l = some (lstObj vs4 n4) := sb6.extBut _ _ (fun q => by rw [q, kd5] at e5; simp [emptyDict, lstObj] at e5) e5
    have ex : h'.get? (dx + 1) = some (instObj 218 dx) := sb6.extBut _ _ (Nat.succ_ne_self dx) kx5
    have ps6 : Pairs h' vs4 ps := (ps4.ext st5.ext).chg sb6.extBut hharm
    have H6 : HdrAt c.X h' (dx + 1) ps dx _ n' l vs4 n4 := ⟨⟨ex, rfl, rfl, e6⟩, by show getL _ [_] = _; simp [getL, Value.isStr], fun nm hnm => by
      show getL _ [_] = _
      simp only [getL, List.find?_cons, List.find?_nil, List.any_cons, List.any_nil]
      have : (Value.str (Str.ofString "_headers") (s5.toks + 1)).isStr nm = false := by simp [Value.isStr, hnm.symm]
      rw [this]; simp [DictEntry.refKey], el, hX4, ps6⟩
    have S6 := Sta.stored F S5 hn0 kd5 sb6 ndx (fun y b e => by cases e) (x := Str.ofString "self") (d₀ := .ref (dx + 1)) (d := .hdr ps) (tk := s5.toks + 1 + 1) rfl (fun v r => by cases r; exact H6.rep) (by omega)
    refine wpAny_mono ((Ex.less (n := n + 8) (P := fun fl s' => fl = .next ∧ Stp c ⟨hh, g, d, t, os⟩ s') (ρ' := [(Str.ofString "self", .hdr ps), (Str.ofString "headers", .lst Option.none (ps.map pairD))]) (Ex.if_ (b := true) (by exact Tru.value Ev.bool Truthy.bool) (fun _ => ?_) (fun h => by cases h)) (by exact SubV.look ⟨rfl, rfl, trivial⟩)) A' _ R' S6) (fun fl s7 q7 => ?_) fun _ _ z => z.elim
    · refine Ex.forK (ds := ps.map pairD) F (fun ds => ∃ rest : List (Str × Str), ds = rest.map pairD ∧ ∀ p ∈ rest, clean c.K p.1 = true ∧ clean c.K p.2 = true) (Src.lst (by walk_at "mE")) ⟨ps, rfl, hps⟩ ?_ ?_ ?_
      · rintro d ds ⟨rest, hd, hr⟩
        cases rest with
        | nil => cases hd
        | cons p rest =>
          cases hd
          obtain ⟨c1, c2⟩ := hr p (by simp)
          refine ⟨_, Tgt.tuple (Tgts.cons F NmOk.loc (Tgts.cons F NmOk.loc Tgts.nil)), ?_⟩
          refine Ex.expr (Ev.methI G (k_conv G) (k_t119 G) (k_k119 G) (by decide) (by walk_at "mE") (by walk_at "mEs") Ev.bool (call_conv G (n := n + 7) c1)) ?_
          refine Ex.expr (Ev.methI G (k_conv G) (k_t119 G) (k_k119 G) (by decide) (by walk_at "mE") (by walk_at "mEs") Ev.bool (call_conv G (n := n + 7) c2)) ?_
          exact Ex.nil fun s'' S => ⟨⟨rest, rfl, fun q hq => hr q (by simp [hq])⟩, S.less fun y d q => sub_cons rfl y d (sub_cons rfl y d q)⟩
      · rintro _
        exact Ex.nil fun s'' S => ⟨_, S, Ex.nil fun s9 S' => ⟨rfl, S'.stp⟩⟩
      · exact plains_map fun p _ => by simp [pairD, D.plain, D.plains]
    · obtain ⟨fr, rfl, st7⟩ := q7
      have H7 := H6.fram fr S6 ndx (fun y b e => by cases e)
      exact ⟨rfl, st7, H7.rep⟩

/-! ## The square and its triangles, plainly -/
abbrev Pt := Nat × Nat × Nat
/-- so often the triangle goes from u to v -/
def ed (t : Tri) (u v : Int) : Int := (if t.1 = u ∧ t.2.1 = v then 1 else 0) + (if t.2.1 = u ∧ t.2.2 = v then 1 else 0) + (if t.2.2 = u ∧ t.1 = v then 1 else 0)
def eds (T : List Tri) (u v : Int) : Int := (T.map fun t => ed t u v).sum
def Dist (t : Tri) : Prop := t.1 ≠ t.2.1 ∧ t.2.1 ≠ t.2.2 ∧ t.2.2 ≠ t.1
def mem3 (t : Tri) (a : Int) : Prop := t.1 = a ∨ t.2.1 = a ∨ t.2.2 = a
/-- the turn of three colours -/
def sgn : Nat → Nat → Nat → Int
  | 0, 1, 2 => 1
  | 1, 2, 0 => 1
  | 2, 0, 1 => 1
  | 2, 1, 0 => -1
  | 1, 0, 2 => -1
  | 0, 2, 1 => -1
  | _, _, _ => 0
def wt (col : Int → Nat) (t : Tri) : Int := sgn (col t.1) (col t.2.1) (col t.2.2)
def wts (col : Int → Nat) (T : List Tri) : Int := (T.map (wt col)).sum
theorem sgn_all : (List.range 3).all (fun i => (List.range 3).all fun j => (List.range 3).all fun k => (List.range 3).all fun l => decide (sgn i j k + sgn j l k - sgn i l k = sgn i j l ∧ sgn j k i = sgn i j k ∧ sgn j i k = - sgn i j k)) = true := by decide
theorem sgn4 {i j k l : Nat} (hi : i < 3) (hj : j < 3) (hk : k < 3) (hl : l < 3) : sgn i j k + sgn j l k - sgn i l k = sgn i j l ∧ sgn j k i = sgn i j k ∧ sgn j i k = - sgn i j k := by
  have := List.all_eq_true.mp sgn_all i (List.mem_range.mpr hi)
  have := List.all_eq_true.mp this j (List.mem_range.mpr hj)
  have := List.all_eq_true.mp this k (List.mem_range.mpr hk)
  have := List.all_eq_true.mp this l (List.mem_range.mpr hl)
  exact of_decide_eq_true this

theorem parted_eq (t : Tri) (a b p : Int) : parted t a b p =
    if (t.1 = a ∨ t.1 = b) ∧ (t.2.1 = a ∨ t.2.1 = b) then [(t.1, p, t.2.2), (p, t.2.1, t.2.2)]
    else if (t.2.1 = a ∨ t.2.1 = b) ∧ (t.2.2 = a ∨ t.2.2 = b) then [(t.2.1, p, t.1), (p, t.2.2, t.1)]
    else if (t.2.2 = a ∨ t.2.2 = b) ∧ (t.1 = a ∨ t.1 = b) then [(t.2.2, p, t.2.1), (p, t.1, t.2.1)]
    else [t] := by
  obtain ⟨x, y, z⟩ := t
  simp [parted, partedL]

theorem ed_rot (x y z u v : Int) : ed (y, z, x) u v = ed (x, y, z) u v := by
  simp only [ed]
  omega
theorem one_if {P : Prop} [Decidable P] (h : ¬ P) : (if P then (1 : Int) else 0) = 0 := if_neg h
theorem ed_off {t : Tri} {u v : Int} (h : ¬ mem3 t u ∨ ¬ mem3 t v) : ed t u v = 0 := by
  obtain ⟨x, y, z⟩ := t
  unfold ed
  dsimp only
  rw [one_if fun q => h.elim (fun n => n (.inl q.1)) fun n => n (.inr (.inl q.2)), one_if fun q => h.elim (fun n => n (.inr (.inl q.1))) fun n => n (.inr (.inr q.2)), one_if fun q => h.elim (fun n => n (.inr (.inr q.1))) fun n => n (.inl q.2)]
  rfl
theorem two_of_two {x y a b : Int} (h : (x = a ∨ x = b) ∧ (y = a ∨ y = b)) (d : x ≠ y) : (x = a ∧ y = b) ∨ (x = b ∧ y = a) := by
  obtain ⟨h1 | h1, h2 | h2⟩ := h
  · exact absurd (h1.trans h2.symm) d
  · exact .inl ⟨h1, h2⟩
  · exact .inr ⟨h1, h2⟩
  · exact absurd (h1.trans h2.symm) d
theorem rot3 {p q r : Prop} : (q ∨ r ∨ p) ↔ (p ∨ q ∨ r) := ⟨fun h => h.elim (fun h => .inr (.inl h)) fun h => h.elim (fun h => .inr (.inr h)) .inl, fun h => h.elim (fun h => .inr (.inr h)) fun h => h.elim .inl fun h => .inr (.inl h)⟩
theorem wt_rot {col : Int → Nat} (hc : ∀ c, col c < 3) (x y z : Int) : wt col (y, z, x) = wt col (x, y, z) := (sgn4 (hc x) (hc y) (hc z) (hc x)).2.1

/-- what is left of a triangle: itself, or two along the side x, y -/
theorem parted_cases {t : Tri} {a b : Int} (p : Int) (d : Dist t) (hab : a ≠ b) : (parted t a b p = [t] ∧ ed t a b = 0 ∧ ed t b a = 0 ∧ ¬ (mem3 t a ∧ mem3 t b)) ∨
    ∃ x y z, (∀ u v, ed t u v = ed (x, y, z) u v) ∧ (∀ col : Int → Nat, (∀ c, col c < 3) → wt col t = wt col (x, y, z)) ∧ Dist (x, y, z) ∧ (∀ c, mem3 (x, y, z) c ↔ mem3 t c) ∧ parted t a b p = [(x, p, z), (p, y, z)] ∧ ((x = a ∧ y = b) ∨ (x = b ∧ y = a)) := by
  rw [parted_eq]
  obtain ⟨x, y, z⟩ := t
  obtain ⟨d1, d2, d3⟩ := d
  dsimp only at d1 d2 d3 ⊢
  split
  · rename_i h
    exact .inr ⟨x, y, z, fun _ _ => rfl, fun _ _ => rfl, ⟨d1, d2, d3⟩, fun _ => Iff.rfl, rfl, two_of_two h d1⟩
  · rename_i n1
    split
    · rename_i h
      exact .inr ⟨y, z, x, fun u v => (ed_rot x y z u v).symm, fun col hc => (wt_rot hc x y z).symm, ⟨d2, d3, d1⟩, fun c => rot3, rfl, two_of_two h d2⟩
    · rename_i n2
      split
      · rename_i h
        exact .inr ⟨z, x, y, fun u v => ed_rot z x y u v, fun col hc => wt_rot hc z x y, ⟨d3, d1, d2⟩, fun c => rot3.symm, rfl, two_of_two h d3⟩
      · rename_i n3
        refine .inl ⟨rfl, ?_, ?_, ?_⟩
        · unfold ed
          dsimp only
          rw [one_if fun q => n1 ⟨.inl q.1, .inr q.2⟩, one_if fun q => n2 ⟨.inl q.1, .inr q.2⟩, one_if fun q => n3 ⟨.inl q.1, .inr q.2⟩]; rfl
        · unfold ed
          dsimp only
          rw [one_if fun q => n1 ⟨.inr q.1, .inl q.2⟩, one_if fun q => n2 ⟨.inr q.1, .inl q.2⟩, one_if fun q => n3 ⟨.inr q.1, .inl q.2⟩]; rfl
        · rintro ⟨h | h | h, k | k | k⟩
          · exact hab (h.symm.trans k)
          · exact n1 ⟨.inl h, .inr k⟩
          · exact n3 ⟨.inr k, .inl h⟩
          · exact n1 ⟨.inr k, .inl h⟩
          · exact hab (h.symm.trans k)
          · exact n2 ⟨.inl h, .inr k⟩
          · exact n3 ⟨.inl h, .inr k⟩
          · exact n2 ⟨.inr k, .inl h⟩
          · exact hab (h.symm.trans k)
theorem eds_one (t : Tri) (u v : Int) : eds [t] u v = ed t u v := by simp [eds]
theorem eds_two (s t : Tri) (u v : Int) : eds [s, t] u v = ed s u v + ed t u v := by simp [eds]
/-- the edges of one triangle, told by cases -/
theorem ed_12 {x y z : Int} (d : Dist (x, y, z)) : ed (x, y, z) x y = 1 := by
  obtain ⟨d1, d2, d3⟩ := d
  unfold ed
  dsimp only
  rw [if_pos ⟨rfl, rfl⟩, one_if fun q => d1 q.1.symm, one_if fun q => d3 q.1]; rfl
theorem ed_21 {x y z : Int} (d : Dist (x, y, z)) : ed (x, y, z) y x = 0 := by
  obtain ⟨d1, d2, d3⟩ := d
  unfold ed
  dsimp only
  rw [one_if fun q => d1 q.1, one_if fun q => d3 q.2, one_if fun q => d2 q.1.symm]; rfl
theorem dist_l {x y z p : Int} (d : Dist (x, y, z)) (hp : ¬ mem3 (x, y, z) p) : Dist (x, p, z) ∧ Dist (p, y, z) := by
  obtain ⟨d1, d2, d3⟩ := d
  exact ⟨⟨fun h => hp (.inl h), fun h => hp (.inr (.inr h.symm)), d3⟩, ⟨fun h => hp (.inr (.inl h.symm)), d2, fun h => hp (.inr (.inr h))⟩⟩
/-- at the new point -/
theorem new_edges {x y z p : Int} (d : Dist (x, y, z)) (hp : ¬ mem3 (x, y, z) p) :
    eds [(x, p, z), (p, y, z)] x p = 1 ∧ eds [(x, p, z), (p, y, z)] p x = 0 ∧ eds [(x, p, z), (p, y, z)] y p = 0 ∧ eds [(x, p, z), (p, y, z)] p y = 1 := by
  obtain ⟨l, r⟩ := dist_l d hp
  have hx : ¬ mem3 (p, y, z) x := by
    rintro (h | h | h)
    · exact hp (.inl h.symm)
    · exact d.1 h.symm
    · exact d.2.2 h
  have hy : ¬ mem3 (x, p, z) y := by
    rintro (h | h | h)
    · exact d.1 h
    · exact hp (.inr (.inl h.symm))
    · exact d.2.1 h.symm
  rw [eds_two, eds_two, eds_two, eds_two, ed_12 l, ed_21 l, ed_12 r, ed_21 r, ed_off (t := (p, y, z)) (.inl hx), ed_off (t := (p, y, z)) (.inr hx), ed_off (t := (x, p, z)) (.inl hy), ed_off (t := (x, p, z)) (.inr hy)]
  exact ⟨rfl, rfl, rfl, rfl⟩

section
variable {t : Tri} {a b p : Int} (d : Dist t) (hab : a ≠ b) (hp : ¬ mem3 t p)
include d hab hp
theorem ed_new (ha : a ≠ p) (hb : b ≠ p) : eds (parted t a b p) a p = ed t a b ∧ eds (parted t a b p) p a = ed t b a ∧ eds (parted t a b p) b p = ed t b a ∧ eds (parted t a b p) p b = ed t a b := by
  rcases parted_cases p d hab with ⟨e, h1, h2, _⟩ | ⟨x, y, z, he, _, dd, hm, e, h⟩
  · rw [e, h1, h2, eds_one, eds_one, eds_one, eds_one, ed_off (.inr hp), ed_off (.inl hp), ed_off (.inr hp), ed_off (.inl hp)]
    exact ⟨rfl, rfl, rfl, rfl⟩
  · obtain ⟨n1, n2, n3, n4⟩ := new_edges dd (fun q => hp ((hm p).mp q))
    rw [e, he, he]
    rcases h with ⟨rfl, rfl⟩ | ⟨rfl, rfl⟩
    · rw [ed_12 dd, ed_21 dd]; exact ⟨n1, n2, n3, n4⟩
    · rw [ed_12 dd, ed_21 dd]; exact ⟨n3, n4, n1, n2⟩
theorem ed_ap (ha : a ≠ p) (hb : b ≠ p) : eds (parted t a b p) a p = ed t a b := (ed_new d hab hp ha hb).1
theorem ed_pa (ha : a ≠ p) (hb : b ≠ p) : eds (parted t a b p) p a = ed t b a := (ed_new d hab hp ha hb).2.1
theorem ed_bp (ha : a ≠ p) (hb : b ≠ p) : eds (parted t a b p) b p = ed t b a := (ed_new d hab hp ha hb).2.2.1
theorem ed_pb (ha : a ≠ p) (hb : b ≠ p) : eds (parted t a b p) p b = ed t a b := (ed_new d hab hp ha hb).2.2.2
theorem ed_other {u v : Int} (hu : u ≠ p) (hv : v ≠ p) : eds (parted t a b p) u v = if (u = a ∧ v = b) ∨ (u = b ∧ v = a) then 0 else ed t u v := by
  rcases parted_cases p d hab with ⟨e, h1, h2, _⟩ | ⟨x, y, z, he, _, dd, hm, e, h⟩
  · rw [e, eds_one]
    split
    · rename_i c
      rcases c with ⟨rfl, rfl⟩ | ⟨rfl, rfl⟩
      · exact h1
      · exact h2
    · rfl
  · have hp' : ¬ mem3 (x, y, z) p := fun q => hp ((hm p).mp q)
    rw [e, he, eds_two]
    obtain ⟨d1, d2, d3⟩ := dd
    have e1 : ed (x, p, z) u v + ed (p, y, z) u v = (if y = u ∧ z = v then 1 else 0) + (if z = u ∧ x = v then 1 else 0) := by
      unfold ed
      dsimp only
      rw [one_if (P := x = u ∧ p = v) fun q => hv q.2.symm, one_if (P := p = u ∧ z = v) fun q => hu q.1.symm, one_if (P := p = u ∧ y = v) fun q => hu q.1.symm, one_if (P := z = u ∧ p = v) fun q => hv q.2.symm]
      simp only [Int.zero_add, Int.add_zero]
      exact Int.add_comm _ _
    have e2 : ed (x, y, z) u v = (if x = u ∧ y = v then 1 else 0) + ((if y = u ∧ z = v then 1 else 0) + (if z = u ∧ x = v then 1 else 0)) := by
      unfold ed
      exact Int.add_assoc _ _ _
    rw [e1, e2]
    by_cases c : (u = a ∧ v = b) ∨ (u = b ∧ v = a)
    · rw [if_pos c]
      have c' : (u = x ∧ v = y) ∨ (u = y ∧ v = x) := by
        rcases h with ⟨rfl, rfl⟩ | ⟨rfl, rfl⟩
        · exact c
        · exact c.symm
      rcases c' with ⟨rfl, rfl⟩ | ⟨rfl, rfl⟩
      · rw [one_if fun q => d1 q.1.symm, one_if fun q => d3 q.1]; rfl
      · rw [one_if fun q => d3 q.2, one_if fun q => d2 q.1.symm]; rfl
    · rw [if_neg c, one_if (P := x = u ∧ y = v) fun q => c (by
        rcases h with ⟨rfl, rfl⟩ | ⟨rfl, rfl⟩
        · exact .inl ⟨q.1.symm, q.2.symm⟩
        · exact .inr ⟨q.1.symm, q.2.symm⟩), Int.zero_add]
theorem ed_pv {v : Int} (ha : a ≠ p) (hb : b ≠ p) (hva : v ≠ a) (hvb : v ≠ b) (hvp : v ≠ p) : eds (parted t a b p) p v = eds (parted t a b p) v p := by
  rcases parted_cases p d hab with ⟨e, h1, h2, _⟩ | ⟨x, y, z, he, _, dd, hm, e, h⟩
  · rw [e, eds_one, eds_one, ed_off (.inl hp), ed_off (.inr hp)]
  · have hp' : ¬ mem3 (x, y, z) p := fun q => hp ((hm p).mp q)
    rw [e, eds_two, eds_two]
    have hvx : v ≠ x ∧ v ≠ y := by
      rcases h with ⟨rfl, rfl⟩ | ⟨rfl, rfl⟩
      · exact ⟨hva, hvb⟩
      · exact ⟨hvb, hva⟩
    have k1 : ¬ x = p := fun q => hp' (.inl q)
    have k2 : ¬ y = p := fun q => hp' (.inr (.inl q))
    have k3 : ¬ z = p := fun q => hp' (.inr (.inr q))
    unfold ed
    dsimp only
    rw [one_if (P := x = p ∧ p = v) fun q => k1 q.1, one_if (P := z = p ∧ x = v) fun q => k3 q.1, one_if (P := p = p ∧ y = v) fun q => hvx.2 q.2.symm, one_if (P := y = p ∧ z = v) fun q => k2 q.1, one_if (P := z = p ∧ p = v) fun q => k3 q.1,
      one_if (P := x = v ∧ p = p) fun q => hvx.1 q.1.symm, one_if (P := p = v ∧ z = p) fun q => k3 q.2, one_if (P := z = v ∧ x = p) fun q => k1 q.2, one_if (P := p = v ∧ y = p) fun q => k2 q.2, one_if (P := y = v ∧ z = p) fun q => k3 q.2]
    have e1 : (if p = p ∧ z = v then (1 : Int) else 0) = if z = v ∧ p = p then 1 else 0 := by
      by_cases c : z = v
      · rw [if_pos ⟨rfl, c⟩, if_pos ⟨c, rfl⟩]
      · rw [if_neg fun q => c q.2, if_neg fun q => c q.1]
    rw [e1]
    simp only [Int.zero_add, Int.add_zero]
theorem parted_dist : ∀ u ∈ parted t a b p, Dist u ∧ ∀ c, mem3 u c → c = p ∨ mem3 t c := by
  rcases parted_cases p d hab with ⟨e, _, _, _⟩ | ⟨x, y, z, he, _, dd, hm, e, h⟩
  · rw [e]
    intro u hu
    rw [List.mem_singleton.mp hu]
    exact ⟨d, fun c => .inr⟩
  · obtain ⟨l, r⟩ := dist_l dd (fun q => hp ((hm p).mp q))
    rw [e]
    intro u hu
    simp only [List.mem_cons, List.not_mem_nil, or_false] at hu
    rcases hu with rfl | rfl
    · refine ⟨l, fun c hc => ?_⟩
      rcases hc with h | h | h
      · exact .inr ((hm c).mp (.inl h))
      · exact .inl h.symm
      · exact .inr ((hm c).mp (.inr (.inr h)))
    · refine ⟨r, fun c hc => ?_⟩
      rcases hc with h | h | h
      · exact .inl h.symm
      · exact .inr ((hm c).mp (.inr (.inl h)))
      · exact .inr ((hm c).mp (.inr (.inr h)))
end
theorem parted_len (t : Tri) (a b p : Int) : (parted t a b p).length ≤ 2 := by
  rw [parted_eq]
  split
  · exact Nat.le_refl 2
  · split
    · exact Nat.le_refl 2
    · split
      · exact Nat.le_refl 2
      · exact Nat.le_succ 1
def has (t : Tri) (a b : Int) : Bool := [t.1, t.2.1, t.2.2].contains a && ([t.1, t.2.1, t.2.2].contains b && true)
theorem has_iff (t : Tri) (a b : Int) : has t a b = true ↔ mem3 t a ∧ mem3 t b := by
  simp only [has, mem3, Bool.and_true, Bool.and_eq_true, List.contains_cons, List.contains_nil, Bool.or_false, Bool.or_eq_true, beq_iff_eq]
  constructor
  · rintro ⟨h1, h2⟩
    exact ⟨h1.imp Eq.symm (Or.imp Eq.symm Eq.symm), h2.imp Eq.symm (Or.imp Eq.symm Eq.symm)⟩
  · rintro ⟨h1, h2⟩
    exact ⟨h1.imp Eq.symm (Or.imp Eq.symm Eq.symm), h2.imp Eq.symm (Or.imp Eq.symm Eq.symm)⟩
theorem has_ed {t : Tri} {a b : Int} (d : Dist t) (hab : a ≠ b) : (if has t a b = true then (1 : Int) else 0) = ed t a b + ed t b a := by
  rcases parted_cases 0 d hab with ⟨e, h1, h2, h3⟩ | ⟨x, y, z, he, _, dd, hm, e, h⟩
  · rw [h1, h2, one_if (fun q => h3 ((has_iff t a b).mp q))]; rfl
  · have ma : mem3 t a ∧ mem3 t b := by
      rcases h with ⟨rfl, rfl⟩ | ⟨rfl, rfl⟩
      · exact ⟨(hm _).mp (.inl rfl), (hm _).mp (.inr (.inl rfl))⟩
      · exact ⟨(hm _).mp (.inr (.inl rfl)), (hm _).mp (.inl rfl)⟩
    rw [if_pos ((has_iff t a b).mpr ma), he, he]
    rcases h with ⟨rfl, rfl⟩ | ⟨rfl, rfl⟩
    · rw [ed_12 dd, ed_21 dd]; rfl
    · rw [ed_12 dd, ed_21 dd]; rfl
theorem ed_nonneg (t : Tri) (u v : Int) : 0 ≤ ed t u v := by
  have h : ∀ (P : Prop) [Decidable P], (0 : Int) ≤ if P then 1 else 0 := fun P _ => by split <;> decide
  have h1 := h (t.1 = u ∧ t.2.1 = v)
  have h2 := h (t.2.1 = u ∧ t.2.2 = v)
  have h3 := h (t.2.2 = u ∧ t.1 = v)
  unfold ed
  omega
theorem wt_parted {col : Int → Nat} (hc : ∀ c, col c < 3) {t : Tri} {a b p : Int} (d : Dist t) (hab : a ≠ b) : wts col (parted t a b p) = wt col t + sgn (col a) (col p) (col b) * (ed t a b - ed t b a) := by
  rcases parted_cases p d hab with ⟨e, h1, h2, _⟩ | ⟨x, y, z, he, hw, dd, hm, e, h⟩
  · rw [e, h1, h2]; simp [wts]
  · rw [e, he, he, hw col hc]
    have h1 := (sgn4 (hc x) (hc p) (hc z) (hc y)).1
    have e2 : wts col [(x, p, z), (p, y, z)] = sgn (col x) (col p) (col z) + sgn (col p) (col y) (col z) := by simp [wts, wt]
    have e3 : wt col (x, y, z) = sgn (col x) (col y) (col z) := rfl
    rw [e2, e3]
    rcases h with ⟨rfl, rfl⟩ | ⟨rfl, rfl⟩
    · rw [ed_12 dd, ed_21 dd]; omega
    · rw [ed_12 dd, ed_21 dd]
      have q1 := (sgn4 (hc x) (hc p) (hc y) (hc x)).2
      have q2 := (sgn4 (hc p) (hc x) (hc y) (hc x)).2
      have q3 := (sgn4 (hc y) (hc p) (hc x) (hc x)).2
      omega

theorem eds_append (A B : List Tri) (u v : Int) : eds (A ++ B) u v = eds A u v + eds B u v := by simp [eds]
theorem wts_append (col : Int → Nat) (A B : List Tri) : wts col (A ++ B) = wts col A + wts col B := by simp [wts]
theorem eds_cons (t : Tri) (A : List Tri) (u v : Int) : eds (t :: A) u v = ed t u v + eds A u v := by simp [eds]
theorem wts_cons (col : Int → Nat) (t : Tri) (A : List Tri) : wts col (t :: A) = wt col t + wts col A := by simp [wts]
theorem eds_nil (u v : Int) : eds [] u v = 0 := rfl
theorem wts_nil (col : Int → Nat) : wts col [] = 0 := rfl
theorem eds_nonneg : ∀ (T : List Tri) (u v : Int), 0 ≤ eds T u v
  | [], u, v => by rw [eds_nil]; omega
  | t :: T, u, v => by
    rw [eds_cons]
    have := ed_nonneg t u v
    have := eds_nonneg T u v
    omega
def splitAll (T : List Tri) (a b p : Int) : List Tri := T.flatMap fun t => parted t a b p
theorem splitAll_cons (t : Tri) (T : List Tri) (a b p : Int) : splitAll (t :: T) a b p = parted t a b p ++ splitAll T a b p := by simp [splitAll]
section
variable {T : List Tri} {a b p : Int}
theorem sp_other (h : ∀ t ∈ T, Dist t ∧ ¬ mem3 t p) (hab : a ≠ b) {u v : Int} (hu : u ≠ p) (hv : v ≠ p) : eds (splitAll T a b p) u v = if (u = a ∧ v = b) ∨ (u = b ∧ v = a) then 0 else eds T u v := by
  induction T with
  | nil => simp [splitAll, eds]
  | cons t T ih =>
    obtain ⟨d, hp⟩ := h t (by simp)
    rw [splitAll_cons, eds_append, ed_other d hab hp hu hv, ih fun t ht => h t (by simp [ht]), eds_cons]
    split <;> omega
theorem sp_ap (h : ∀ t ∈ T, Dist t ∧ ¬ mem3 t p) (hab : a ≠ b) (ha : a ≠ p) (hb : b ≠ p) : eds (splitAll T a b p) a p = eds T a b := by
  induction T with
  | nil => simp [splitAll, eds]
  | cons t T ih =>
    obtain ⟨d, hp⟩ := h t (by simp)
    rw [splitAll_cons, eds_append, ed_ap d hab hp ha hb, ih fun t ht => h t (by simp [ht]), eds_cons]
theorem sp_pa (h : ∀ t ∈ T, Dist t ∧ ¬ mem3 t p) (hab : a ≠ b) (ha : a ≠ p) (hb : b ≠ p) : eds (splitAll T a b p) p a = eds T b a := by
  induction T with
  | nil => simp [splitAll, eds]
  | cons t T ih =>
    obtain ⟨d, hp⟩ := h t (by simp)
    rw [splitAll_cons, eds_append, ed_pa d hab hp ha hb, ih fun t ht => h t (by simp [ht]), eds_cons]
theorem sp_bp (h : ∀ t ∈ T, Dist t ∧ ¬ mem3 t p) (hab : a ≠ b) (ha : a ≠ p) (hb : b ≠ p) : eds (splitAll T a b p) b p = eds T b a := by
  induction T with
  | nil => simp [splitAll, eds]
  | cons t T ih =>
    obtain ⟨d, hp⟩ := h t (by simp)
    rw [splitAll_cons, eds_append, ed_bp d hab hp ha hb, ih fun t ht => h t (by simp [ht]), eds_cons]
theorem sp_pb (h : ∀ t ∈ T, Dist t ∧ ¬ mem3 t p) (hab : a ≠ b) (ha : a ≠ p) (hb : b ≠ p) : eds (splitAll T a b p) p b = eds T a b := by
  induction T with
  | nil => simp [splitAll, eds]
  | cons t T ih =>
    obtain ⟨d, hp⟩ := h t (by simp)
    rw [splitAll_cons, eds_append, ed_pb d hab hp ha hb, ih fun t ht => h t (by simp [ht]), eds_cons]
theorem sp_pv (h : ∀ t ∈ T, Dist t ∧ ¬ mem3 t p) (hab : a ≠ b) (ha : a ≠ p) (hb : b ≠ p) {v : Int} (hva : v ≠ a) (hvb : v ≠ b) (hvp : v ≠ p) : eds (splitAll T a b p) p v = eds (splitAll T a b p) v p := by
  induction T with
  | nil => simp [splitAll, eds]
  | cons t T ih =>
    obtain ⟨d, hp⟩ := h t (by simp)
    rw [splitAll_cons, eds_append, eds_append, ed_pv d hab hp ha hb hva hvb hvp, ih fun t ht => h t (by simp [ht])]
theorem sp_wts {col : Int → Nat} (hc : ∀ c, col c < 3) (h : ∀ t ∈ T, Dist t) (hab : a ≠ b) : wts col (splitAll T a b p) = wts col T + sgn (col a) (col p) (col b) * (eds T a b - eds T b a) := by
  induction T with
  | nil => simp [splitAll, wts, eds]
  | cons t T ih =>
    rw [splitAll_cons, wts_append, wt_parted hc (h t (by simp)) hab, ih fun t ht => h t (by simp [ht]), wts_cons, eds_cons, eds_cons]
    simp only [Int.mul_sub, Int.mul_add]
    omega
theorem sp_has (h : ∀ t ∈ T, Dist t) (hab : a ≠ b) : ((T.filter fun t => has t a b).length : Int) = eds T a b + eds T b a := by
  induction T with
  | nil => simp [eds]
  | cons t T ih =>
    have e := has_ed (h t (by simp)) hab
    have i := ih fun t ht => h t (by simp [ht])
    rw [List.filter_cons, eds_cons, eds_cons]
    split
    · rename_i q
      rw [if_pos q] at e
      rw [List.length_cons]; omega
    · rename_i q
      rw [if_neg q] at e
      omega
theorem sp_len : (splitAll T a b p).length ≤ 2 * T.length := by
  induction T with
  | nil => simp [splitAll]
  | cons t T ih =>
    rw [splitAll_cons, List.length_append, List.length_cons]
    have := parted_len t a b p
    omega
theorem sp_mem (h : ∀ t ∈ T, Dist t ∧ ¬ mem3 t p) (hab : a ≠ b) : ∀ u ∈ splitAll T a b p, Dist u ∧ ∀ c, mem3 u c → c = p ∨ ∃ t ∈ T, mem3 t c := by
  intro u hu
  obtain ⟨t, ht, hu⟩ := List.mem_flatMap.mp hu
  obtain ⟨d, hp⟩ := h t ht
  obtain ⟨d', m⟩ := parted_dist d hab hp u hu
  exact ⟨d', fun c hc => (m c hc).elim .inl fun q => .inr ⟨t, ht, q⟩⟩
end
theorem ed_mem {t : Tri} {u v : Int} (h : ed t u v ≠ 0) : mem3 t u ∧ mem3 t v := by
  obtain ⟨x, y, z⟩ := t
  simp only [ed, mem3] at h ⊢
  grind
theorem eds_mem : ∀ {T : List Tri} {u v : Int}, eds T u v ≠ 0 → ∃ t ∈ T, mem3 t u ∧ mem3 t v
  | [], u, v, h => absurd (eds_nil u v) h
  | t :: T, u, v, h => by
    rw [eds_cons] at h
    by_cases q : ed t u v = 0
    · obtain ⟨t', h1, h2⟩ := eds_mem (T := T) (u := u) (v := v) (by omega)
      exact ⟨t', by simp [h1], h2⟩
    · exact ⟨t, by simp, ed_mem q⟩
theorem eds_self {T : List Tri} (h : ∀ t ∈ T, Dist t) (u : Int) : eds T u u = 0 := by
  induction T with
  | nil => rfl
  | cons t T ih =>
    rw [eds_cons, ih fun t ht => h t (by simp [ht])]
    obtain ⟨x, y, z⟩ := t
    have d := h (x, y, z) (by simp)
    simp only [Dist] at d
    simp only [ed]
    grind

def pnt (pts : List Pt) (i : Int) : Pt := pts.getD i.toNat (0, 0, 1)
def colP (p : Pt) : Nat := lIx (tzc p.1) (tzc p.2.1) (tzc p.2.2)
def colI (pts : List Pt) (i : Int) : Nat := colP (pnt pts i)
def lined (p q : Pt) : Prop := (p.2.1 = 0 ∧ q.2.1 = 0) ∨ (p.1 = p.2.2 ∧ q.1 = q.2.2) ∨ (p.2.1 = p.2.2 ∧ q.2.1 = q.2.2) ∨ (p.1 = 0 ∧ q.1 = 0)
theorem colP_lt (p : Pt) : colP p < 3 := by unfold colP lIx; split <;> (try split) <;> omega
def Box (p : Pt) : Prop := p.1 < 64 ∧ p.2.1 < 64 ∧ 1 ≤ p.2.2 ∧ p.2.2 < 64

structure Nice (pts : List Pt) (T : List Tri) : Prop where
  rng : ∀ t ∈ T, Dist t ∧ ∀ c, mem3 t c → 0 ≤ c ∧ c < pts.length
  box : ∀ p ∈ pts, Box p
  bal : ∀ u v, eds T u v = eds T v u ∨ eds T u v + eds T v u = 1
  rim : ∀ u v, eds T u v + eds T v u = 1 → lined (pnt pts u) (pnt pts v)
  one : wts (colI pts) T = 1

/-- where the point is moved on the rim -/
def onRim (p1 p2 q : Pt) : Pt := if p1.2.1 = p2.2.1 ∧ p2.2.1 = 0 then (q.1, 0, q.2.2) else if p1.1 = p1.2.2 ∧ p2.1 = p2.2.2 then (q.2.2, q.2.1, q.2.2) else if p1.2.1 = p1.2.2 ∧ p2.2.1 = p2.2.2 then (q.1, q.2.2, q.2.2) else (0, q.2.1, q.2.2)
def moved (pts : List Pt) (T : List Tri) (a b : Int) (q : Pt) : Pt := if (T.filter fun t => has t a b).length = 1 then onRim (pnt pts a) (pnt pts b) q else q

theorem tz5 {x : Nat} (h : x < 64) (h0 : 1 ≤ x) : tzc x ≤ 5 := (tz_get h (by omega)).2.2.2.1
theorem tz0 : tzc 0 = 6 := by decide
theorem pnt_box {pts : List Pt} (h : ∀ p ∈ pts, Box p) (i : Int) : Box (pnt pts i) := by
  unfold pnt
  rw [List.getD_eq_getElem?_getD]
  cases q : pts[i.toNat]? with
  | none => exact ⟨by decide, by decide, by decide, by decide⟩
  | some p => exact h p (List.mem_of_getElem? q)
theorem box_moved {p1 p2 q : Pt} (h : Box q) : Box (onRim p1 p2 q) := by
  obtain ⟨h1, h2, h3, h4⟩ := h
  unfold onRim
  split
  · exact ⟨h1, by show 0 < 64; decide, h3, h4⟩
  · split
    · exact ⟨h4, h2, h3, h4⟩
    · split
      · exact ⟨h1, h4, h3, h4⟩
      · exact ⟨by show 0 < 64; decide, h2, h3, h4⟩

/-- a line of the rim lacks a colour -/
theorem line_sgn {p q r : Pt} (hp : Box p) (hq : Box q) (hr : Box r)
    (h : (p.2.1 = 0 ∧ q.2.1 = 0 ∧ r.2.1 = 0) ∨ (p.1 = p.2.2 ∧ q.1 = q.2.2 ∧ r.1 = r.2.2) ∨ (p.2.1 = p.2.2 ∧ q.2.1 = q.2.2 ∧ r.2.1 = r.2.2) ∨ (p.1 = 0 ∧ q.1 = 0 ∧ r.1 = 0)) : sgn (colP p) (colP q) (colP r) = 0 := by
  have y0 : ∀ {p : Pt}, Box p → p.2.1 = 0 → colP p = 0 ∨ colP p = 2 := by
    rintro ⟨x, y, z⟩ ⟨h1, h2, h3, h4⟩ e
    dsimp only at *
    subst e
    have := tz5 h4 h3
    unfold colP lIx
    dsimp only
    rw [tz0]
    split
    · exact .inl rfl
    · rw [if_neg (by omega)]; exact .inr rfl
  have xz : ∀ {p : Pt}, Box p → p.1 = p.2.2 → colP p = 0 ∨ colP p = 1 := by
    rintro ⟨x, y, z⟩ ⟨h1, h2, h3, h4⟩ e
    dsimp only at *
    subst e
    unfold colP lIx
    dsimp only
    split
    · exact .inl rfl
    · rw [if_pos (by omega)]; exact .inr rfl
  have yz : ∀ {p : Pt}, Box p → p.2.1 = p.2.2 → colP p = 0 ∨ colP p = 1 := by
    rintro ⟨x, y, z⟩ ⟨h1, h2, h3, h4⟩ e
    dsimp only at *
    subst e
    unfold colP lIx
    dsimp only
    split
    · exact .inl rfl
    · rw [if_pos (by omega)]; exact .inr rfl
  have x0 : ∀ {p : Pt}, Box p → p.1 = 0 → colP p = 1 ∨ colP p = 2 := by
    rintro ⟨x, y, z⟩ ⟨h1, h2, h3, h4⟩ e
    dsimp only at *
    subst e
    have := tz5 h4 h3
    unfold colP lIx
    dsimp only
    rw [tz0, if_neg (by omega)]
    split
    · exact .inl rfl
    · exact .inr rfl
  rcases h with ⟨e1, e2, e3⟩ | ⟨e1, e2, e3⟩ | ⟨e1, e2, e3⟩ | ⟨e1, e2, e3⟩
  · rcases y0 hp e1 with a | a <;> rcases y0 hq e2 with b | b <;> rcases y0 hr e3 with c | c <;> rw [a, b, c] <;> rfl
  · rcases xz hp e1 with a | a <;> rcases xz hq e2 with b | b <;> rcases xz hr e3 with c | c <;> rw [a, b, c] <;> rfl
  · rcases yz hp e1 with a | a <;> rcases yz hq e2 with b | b <;> rcases yz hr e3 with c | c <;> rw [a, b, c] <;> rfl
  · rcases x0 hp e1 with a | a <;> rcases x0 hq e2 with b | b <;> rcases x0 hr e3 with c | c <;> rw [a, b, c] <;> rfl
/-- the moved point lies on a line of both -/
theorem rim_lined {p1 p2 q : Pt} (h : lined p1 p2) : (p1.2.1 = 0 ∧ (onRim p1 p2 q).2.1 = 0 ∧ p2.2.1 = 0) ∨ (p1.1 = p1.2.2 ∧ (onRim p1 p2 q).1 = (onRim p1 p2 q).2.2 ∧ p2.1 = p2.2.2) ∨ (p1.2.1 = p1.2.2 ∧ (onRim p1 p2 q).2.1 = (onRim p1 p2 q).2.2 ∧ p2.2.1 = p2.2.2) ∨ (p1.1 = 0 ∧ (onRim p1 p2 q).1 = 0 ∧ p2.1 = 0) := by
  unfold onRim
  unfold lined at h
  by_cases c1 : p1.2.1 = p2.2.1 ∧ p2.2.1 = 0
  · rw [if_pos c1]; exact .inl ⟨c1.1.trans c1.2, rfl, c1.2⟩
  · rw [if_neg c1]
    by_cases c2 : p1.1 = p1.2.2 ∧ p2.1 = p2.2.2
    · rw [if_pos c2]; exact .inr (.inl ⟨c2.1, rfl, c2.2⟩)
    · rw [if_neg c2]
      by_cases c3 : p1.2.1 = p1.2.2 ∧ p2.2.1 = p2.2.2
      · rw [if_pos c3]; exact .inr (.inr (.inl ⟨c3.1, rfl, c3.2⟩))
      · rw [if_neg c3]
        rcases h with ⟨h1, h2⟩ | h | h | h
        · exact absurd ⟨h1.trans h2.symm, h2⟩ c1
        · exact absurd h c2
        · exact absurd h c3
        · exact .inr (.inr (.inr ⟨h.1, rfl, h.2⟩))

theorem pnt_old {pts : List Pt} {q : Pt} {i : Int} (h0 : 0 ≤ i) (h1 : i < pts.length) : pnt (pts ++ [q]) i = pnt pts i := by
  unfold pnt
  rw [List.getD_eq_getElem?_getD, List.getD_eq_getElem?_getD, List.getElem?_append_left (by omega)]
theorem pnt_new {pts : List Pt} {q : Pt} : pnt (pts ++ [q]) (pts.length : Int) = q := by
  unfold pnt
  rw [List.getD_eq_getElem?_getD, Int.toNat_natCast]
  simp

theorem wts_congr {c c' : Int → Nat} {T : List Tri} (h : ∀ t ∈ T, ∀ x, mem3 t x → c x = c' x) : wts c T = wts c' T := by
  induction T with
  | nil => rfl
  | cons t T ih =>
    rw [wts_cons, wts_cons, ih fun t ht => h t (by simp [ht])]
    have h1 := h t (by simp) t.1 (.inl rfl)
    have h2 := h t (by simp) t.2.1 (.inr (.inl rfl))
    have h3 := h t (by simp) t.2.2 (.inr (.inr rfl))
    unfold wt
    rw [h1, h2, h3]

theorem Nice.step {pts : List Pt} {T : List Tri} {a b : Int} {q : Pt} (N : Nice pts T) (hab : a ≠ b) (ha : 0 ≤ a ∧ a < pts.length) (hb : 0 ≤ b ∧ b < pts.length) (hq : Box q) : Nice (pts ++ [moved pts T a b q]) (splitAll T a b pts.length) := by
  have hd : ∀ t ∈ T, Dist t := fun t ht => (N.rng t ht).1
  have hn : ∀ t ∈ T, Dist t ∧ ¬ mem3 t (pts.length : Int) := fun t ht => ⟨hd t ht, fun m => by have := (N.rng t ht).2 _ m; omega⟩
  have hap : a ≠ (pts.length : Int) := by omega
  have hbp : b ≠ (pts.length : Int) := by omega
  have hbm : Box (moved pts T a b q) := by unfold moved; split; exact box_moved hq; exact hq
  have hcnt := sp_has hd hab
  have n1 := eds_nonneg T a b
  have n2 := eds_nonneg T b a
  -- what holds of the moved point where the side is on the rim
  have hrim : eds T a b + eds T b a = 1 → moved pts T a b q = onRim (pnt pts a) (pnt pts b) q := fun h => by
    unfold moved
    rw [if_pos (by omega)]
  have la : eds T a b + eds T b a = 1 → lined (pnt pts a) (moved pts T a b q) ∧ lined (moved pts T a b q) (pnt pts b) := fun h => by
    rw [hrim h]
    rcases rim_lined (q := q) (N.rim a b h) with ⟨e1, e2, e3⟩ | ⟨e1, e2, e3⟩ | ⟨e1, e2, e3⟩ | ⟨e1, e2, e3⟩
    · exact ⟨.inl ⟨e1, e2⟩, .inl ⟨e2, e3⟩⟩
    · exact ⟨.inr (.inl ⟨e1, e2⟩), .inr (.inl ⟨e2, e3⟩)⟩
    · exact ⟨.inr (.inr (.inl ⟨e1, e2⟩)), .inr (.inr (.inl ⟨e2, e3⟩))⟩
    · exact ⟨.inr (.inr (.inr ⟨e1, e2⟩)), .inr (.inr (.inr ⟨e2, e3⟩))⟩
  have lsymm : ∀ {p q : Pt}, lined p q → lined q p := by
    rintro p q (⟨h1, h2⟩ | ⟨h1, h2⟩ | ⟨h1, h2⟩ | ⟨h1, h2⟩)
    · exact .inl ⟨h2, h1⟩
    · exact .inr (.inl ⟨h2, h1⟩)
    · exact .inr (.inr (.inl ⟨h2, h1⟩))
    · exact .inr (.inr (.inr ⟨h2, h1⟩))
  have q1 := sp_ap hn hab hap hbp
  have q2 := sp_pa hn hab hap hbp
  have q3 := sp_bp hn hab hap hbp
  have q4 := sp_pb hn hab hap hbp
  have hnew : ∀ t ∈ splitAll T a b pts.length, Dist t := fun t ht => (sp_mem hn hab t ht).1
  refine ⟨fun t ht => ?_, fun p hp => ?_, fun u v => ?_, fun u v h => ?_, ?_⟩
  · obtain ⟨d, m⟩ := sp_mem hn hab t ht
    refine ⟨d, fun c hc => ?_⟩
    rw [List.length_append, List.length_singleton]
    rcases m c hc with rfl | ⟨t', ht', hc'⟩
    · omega
    · have := (N.rng t' ht').2 c hc'
      omega
  · rcases List.mem_append.mp hp with hp | hp
    · exact N.box p hp
    · rw [List.mem_singleton.mp hp]; exact hbm
  · by_cases hu : u = (pts.length : Int) <;> by_cases hv : v = (pts.length : Int)
    · subst hu; rw [hv]; exact .inl rfl
    · subst hu
      by_cases va : v = a
      · subst va; rw [q1, q2]; have := N.bal v b; omega
      · by_cases vb : v = b
        · subst vb; rw [q3, q4]; have := N.bal a v; omega
        · exact .inl (sp_pv hn hab hap hbp va vb hv)
    · subst hv
      by_cases ua : u = a
      · subst ua; rw [q1, q2]; have := N.bal u b; omega
      · by_cases ub : u = b
        · subst ub; rw [q3, q4]; have := N.bal a u; omega
        · exact .inl (sp_pv hn hab hap hbp ua ub hu).symm
    · rw [sp_other hn hab hu hv, sp_other hn hab hv hu]
      have := N.bal u v
      by_cases c1 : (u = a ∧ v = b) ∨ (u = b ∧ v = a)
      · have c2 : (v = a ∧ u = b) ∨ (v = b ∧ u = a) := by omega
        rw [if_pos c1, if_pos c2]; exact .inl rfl
      · have c2 : ¬ ((v = a ∧ u = b) ∨ (v = b ∧ u = a)) := by omega
        rw [if_neg c1, if_neg c2]; exact this
  · by_cases hu : u = (pts.length : Int) <;> by_cases hv : v = (pts.length : Int)
    · subst hu; rw [hv, eds_self hnew] at h; omega
    · subst hu
      rw [pnt_new]
      by_cases va : v = a
      · subst va
        rw [pnt_old ha.1 ha.2]
        rw [q1, q2] at h
        exact lsymm (la (by omega)).1
      · by_cases vb : v = b
        · subst vb
          rw [pnt_old hb.1 hb.2]
          rw [q3, q4] at h
          exact (la (by omega)).2
        · have := sp_pv hn hab hap hbp va vb hv; omega
    · subst hv
      rw [pnt_new]
      by_cases ua : u = a
      · subst ua
        rw [pnt_old ha.1 ha.2]
        rw [q1, q2] at h
        exact (la (by omega)).1
      · by_cases ub : u = b
        · subst ub
          rw [pnt_old hb.1 hb.2]
          rw [q3, q4] at h
          exact lsymm (la (by omega)).2
        · have := sp_pv hn hab hap hbp ua ub hu; omega
    · rw [sp_other hn hab hu hv, sp_other hn hab hv hu] at h
      by_cases c1 : (u = a ∧ v = b) ∨ (u = b ∧ v = a)
      · have c2 : (v = a ∧ u = b) ∨ (v = b ∧ u = a) := by omega
        rw [if_pos c1, if_pos c2] at h; omega
      · have c2 : ¬ ((v = a ∧ u = b) ∨ (v = b ∧ u = a)) := by omega
        rw [if_neg c1, if_neg c2] at h
        have hin : ∃ t ∈ T, mem3 t u ∧ mem3 t v := by
          by_cases z : eds T u v = 0
          · obtain ⟨t, h1, h2, h3⟩ := eds_mem (T := T) (u := v) (v := u) (by omega)
            exact ⟨t, h1, h3, h2⟩
          · exact eds_mem z
        obtain ⟨t, ht, mu, mv⟩ := hin
        have r1 := (N.rng t ht).2 u mu
        have r2 := (N.rng t ht).2 v mv
        rw [pnt_old r1.1 r1.2, pnt_old r2.1 r2.2]
        exact N.rim u v h
  · have hc : ∀ c, colI (pts ++ [moved pts T a b q]) c < 3 := fun c => colP_lt _
    rw [sp_wts hc hd hab]
    have e1 : wts (colI (pts ++ [moved pts T a b q])) T = wts (colI pts) T := wts_congr fun t ht x hx => by
      have r := (N.rng t ht).2 x hx
      unfold colI
      rw [pnt_old r.1 r.2]
    rw [e1, N.one]
    have e2 : sgn (colI (pts ++ [moved pts T a b q]) a) (colI (pts ++ [moved pts T a b q]) pts.length) (colI (pts ++ [moved pts T a b q]) b) * (eds T a b - eds T b a) = 0 := by
      rcases N.bal a b with h | h
      · rw [h, Int.sub_self, Int.mul_zero]
      · unfold colI
        rw [pnt_old ha.1 ha.2, pnt_old hb.1 hb.2, pnt_new, line_sgn (pnt_box N.box a) hbm (pnt_box N.box b) (by rw [hrim h]; exact rim_lined (N.rim a b h)), Int.zero_mul]
    omega

def pts0 : List Pt := [(0, 0, 1), (1, 0, 1), (1, 1, 1), (0, 1, 1)]
def tris0 : List Tri := [(0, 1, 2), (0, 2, 3)]
theorem bal0 : (List.range 4).all (fun m => (List.range 4).all fun k => decide (eds tris0 (m : Nat) (k : Nat) = eds tris0 (k : Nat) (m : Nat) ∨ eds tris0 (m : Nat) (k : Nat) + eds tris0 (k : Nat) (m : Nat) = 1)) = true := by decide
theorem rim0 : (List.range 4).all (fun m => (List.range 4).all fun k => decide (eds tris0 (m : Nat) (k : Nat) + eds tris0 (k : Nat) (m : Nat) = 1 → (((m : Nat) : Int) = 0 ∧ ((k : Nat) : Int) = 1) ∨ (((m : Nat) : Int) = 1 ∧ ((k : Nat) : Int) = 0) ∨ (((m : Nat) : Int) = 1 ∧ ((k : Nat) : Int) = 2) ∨ (((m : Nat) : Int) = 2 ∧ ((k : Nat) : Int) = 1) ∨ (((m : Nat) : Int) = 2 ∧ ((k : Nat) : Int) = 3) ∨ (((m : Nat) : Int) = 3 ∧ ((k : Nat) : Int) = 2) ∨ (((m : Nat) : Int) = 3 ∧ ((k : Nat) : Int) = 0) ∨ (((m : Nat) : Int) = 0 ∧ ((k : Nat) : Int) = 3))) = true := by decide
theorem nice0 : Nice pts0 tris0 := by
  have hin : ∀ t ∈ tris0, ∀ c, mem3 t c → 0 ≤ c ∧ c < 4 := by
    intro t ht c hc
    simp only [tris0, List.mem_cons, List.not_mem_nil, or_false] at ht
    rcases ht with rfl | rfl <;> rcases hc with rfl | rfl | rfl <;> decide
  have key1 : ∀ {u v : Int}, eds tris0 u v ≠ 0 → (0 ≤ u ∧ u < 4) ∧ 0 ≤ v ∧ v < 4 := fun h => by
    obtain ⟨t, ht, mu, mv⟩ := eds_mem h
    exact ⟨hin t ht _ mu, hin t ht _ mv⟩
  have key0 : ∀ {u v : Int}, (0 ≤ u ∧ u < 4) → (0 ≤ v ∧ v < 4) → eds tris0 u v = eds tris0 v u ∨ eds tris0 u v + eds tris0 v u = 1 := by
    rintro u v ⟨u0, u1⟩ ⟨v0, v1⟩
    obtain ⟨m, rfl⟩ := Int.eq_ofNat_of_zero_le u0
    obtain ⟨k, rfl⟩ := Int.eq_ofNat_of_zero_le v0
    have := List.all_eq_true.mp bal0 m (List.mem_range.mpr (Int.ofNat_lt.mp u1))
    exact of_decide_eq_true (List.all_eq_true.mp this k (List.mem_range.mpr (Int.ofNat_lt.mp v1)))
  refine ⟨?_, ?_, ?_, ?_, by decide⟩
  · intro t ht
    simp only [tris0, List.mem_cons, List.not_mem_nil, or_false] at ht
    rcases ht with rfl | rfl
    · exact ⟨by simp [Dist], fun c hc => by simp only [mem3] at hc; show 0 ≤ c ∧ c < 4; omega⟩
    · exact ⟨by simp [Dist], fun c hc => by simp only [mem3] at hc; show 0 ≤ c ∧ c < 4; omega⟩
  · intro p hp
    simp only [pts0, List.mem_cons, List.not_mem_nil, or_false] at hp
    rcases hp with rfl | rfl | rfl | rfl <;> exact ⟨by decide, by decide, by decide, by decide⟩
  · intro u v
    by_cases z : eds tris0 u v = 0
    · by_cases z' : eds tris0 v u = 0
      · exact .inl (z.trans z'.symm)
      · exact key0 (key1 z').2 (key1 z').1
    · exact key0 (key1 z).1 (key1 z).2
  · intro u v h
    have hc : (u = 0 ∧ v = 1) ∨ (u = 1 ∧ v = 0) ∨ (u = 1 ∧ v = 2) ∨ (u = 2 ∧ v = 1) ∨ (u = 2 ∧ v = 3) ∨ (u = 3 ∧ v = 2) ∨ (u = 3 ∧ v = 0) ∨ (u = 0 ∧ v = 3) := by
      have hr : 0 ≤ u ∧ u < 4 ∧ 0 ≤ v ∧ v < 4 := by
        by_cases z : eds tris0 u v = 0
        · have z' : eds tris0 v u ≠ 0 := fun q => by rw [z, q] at h; cases h
          exact ⟨(key1 z').2.1, (key1 z').2.2, (key1 z').1.1, (key1 z').1.2⟩
        · exact ⟨(key1 z).1.1, (key1 z).1.2, (key1 z).2.1, (key1 z).2.2⟩
      obtain ⟨m, rfl⟩ := Int.eq_ofNat_of_zero_le hr.1
      obtain ⟨k, rfl⟩ := Int.eq_ofNat_of_zero_le hr.2.2.1
      have hm : m < 4 := Int.ofNat_lt.mp hr.2.1
      have hk : k < 4 := Int.ofNat_lt.mp hr.2.2.2
      have := List.all_eq_true.mp rim0 m (List.mem_range.mpr hm)
      have := of_decide_eq_true (List.all_eq_true.mp this k (List.mem_range.mpr hk))
      exact this h
    rcases hc with ⟨rfl, rfl⟩ | ⟨rfl, rfl⟩ | ⟨rfl, rfl⟩ | ⟨rfl, rfl⟩ | ⟨rfl, rfl⟩ | ⟨rfl, rfl⟩ | ⟨rfl, rfl⟩ | ⟨rfl, rfl⟩ <;> unfold lined <;> decide

def detI (p q r : Pt) : Int := (p.1 : Int) * ((q.2.1 : Int) * r.2.2 - (r.2.1 : Int) * q.2.2) - (p.2.1 : Int) * ((q.1 : Int) * r.2.2 - (r.1 : Int) * q.2.2) + (p.2.2 : Int) * ((q.1 : Int) * r.2.1 - (r.1 : Int) * q.2.1)
/-- the noughts of the greatest size -/
def mt (p : Pt) : Nat := min (min (tzc p.1) (tzc p.2.1)) (tzc p.2.2)

def splOk (x : Nat) : Bool := x % 2 ^ tzc x == 0 && (decide (5 < tzc x) || x / 2 ^ tzc x % 2 == 1) && decide (tzc x ≤ 6)
theorem spl_all : (List.range 64).all splOk = true := by decide +kernel
theorem spl {x : Nat} (h : x < 64) : x % 2 ^ tzc x = 0 ∧ (tzc x ≤ 5 → x / 2 ^ tzc x % 2 = 1) ∧ tzc x ≤ 6 := by
  have := List.all_eq_true.mp spl_all x (List.mem_range.mpr h)
  simp only [splOk, Bool.and_eq_true, Bool.or_eq_true, beq_iff_eq, decide_eq_true_eq] at this
  exact ⟨this.1.1, fun h => this.1.2.elim (fun q => by omega) id, this.2⟩
/-- k noughts at least -/
theorem div_pow {x k : Nat} (h : x < 64) (hk : k ≤ tzc x) : ∃ u : Int, (x : Int) = 2 ^ k * u := by
  refine ⟨((x / 2 ^ k : Nat) : Int), ?_⟩
  have h1 := (spl h).1
  have h2 : 2 ^ k ∣ x := Nat.dvd_trans (Nat.pow_dvd_pow 2 hk) (Nat.dvd_of_mod_eq_zero h1)
  have := Nat.mul_div_cancel' h2
  exact_mod_cast this.symm
theorem odd_pow {x : Nat} (h : x < 64) (hk : tzc x ≤ 5) : ∃ u : Int, (x : Int) = 2 ^ tzc x * u ∧ u % 2 = 1 := by
  refine ⟨((x / 2 ^ tzc x : Nat) : Int), ?_, ?_⟩
  · have := Nat.mul_div_cancel' (Nat.dvd_of_mod_eq_zero (spl h).1)
    exact_mod_cast this.symm
  · have := (spl h).2.1 hk
    omega

theorem red_of {p : Pt} (hp : Box p) (h : colP p = 0) : ∃ u y z : Int, (p.1 : Int) = 2 ^ mt p * u ∧ u % 2 = 1 ∧ (p.2.1 : Int) = 2 ^ mt p * y ∧ (p.2.2 : Int) = 2 ^ mt p * z := by
  obtain ⟨h1, h2, h3, h4⟩ := hp
  have t5 := tz5 h4 h3
  have c : tzc p.1 ≤ tzc p.2.1 ∧ tzc p.1 ≤ tzc p.2.2 := by
    unfold colP lIx at h
    split at h
    · assumption
    · split at h <;> cases h
  have e : mt p = tzc p.1 := by unfold mt; omega
  obtain ⟨u, e1, e2⟩ := odd_pow h1 (by omega)
  obtain ⟨y, e3⟩ := div_pow h2 c.1
  obtain ⟨z, e4⟩ := div_pow h4 c.2
  rw [e]
  exact ⟨u, y, z, e1, e2, e3, e4⟩
theorem green_of {p : Pt} (hp : Box p) (h : colP p = 1) : ∃ v x z : Int, (p.2.1 : Int) = 2 ^ mt p * v ∧ v % 2 = 1 ∧ (p.1 : Int) = 2 ^ mt p * (2 * x) ∧ (p.2.2 : Int) = 2 ^ mt p * z := by
  obtain ⟨h1, h2, h3, h4⟩ := hp
  have t5 := tz5 h4 h3
  have c : tzc p.2.1 ≤ tzc p.2.2 ∧ tzc p.2.1 + 1 ≤ tzc p.1 := by
    unfold colP lIx at h
    split at h
    · cases h
    · split at h
      · omega
      · cases h
  have e : mt p = tzc p.2.1 := by unfold mt; omega
  obtain ⟨v, e1, e2⟩ := odd_pow h2 (by omega)
  obtain ⟨x, e3⟩ := div_pow h1 c.2
  obtain ⟨z, e4⟩ := div_pow h4 c.1
  rw [e]
  refine ⟨v, x, z, e1, e2, ?_, e4⟩
  rw [e3, Int.pow_succ, Int.mul_assoc]
theorem blue_of {p : Pt} (hp : Box p) (h : colP p = 2) : ∃ w x y : Int, (p.2.2 : Int) = 2 ^ mt p * w ∧ w % 2 = 1 ∧ (p.1 : Int) = 2 ^ mt p * (2 * x) ∧ (p.2.1 : Int) = 2 ^ mt p * (2 * y) := by
  obtain ⟨h1, h2, h3, h4⟩ := hp
  have t5 := tz5 h4 h3
  have c : tzc p.2.2 + 1 ≤ tzc p.2.1 ∧ tzc p.2.2 + 1 ≤ tzc p.1 := by
    unfold colP lIx at h
    split at h
    · cases h
    · split at h
      · cases h
      · omega
  have e : mt p = tzc p.2.2 := by unfold mt; omega
  obtain ⟨w, e1, e2⟩ := odd_pow h4 (by omega)
  obtain ⟨x, e3⟩ := div_pow h1 c.2
  obtain ⟨y, e4⟩ := div_pow h2 c.1
  rw [e]
  refine ⟨w, x, y, e1, e2, ?_, ?_⟩
  · rw [e3, Int.pow_succ, Int.mul_assoc]
  · rw [e4, Int.pow_succ, Int.mul_assoc]

theorem det_swap (p q r : Pt) : detI q p r = - detI p q r := by unfold detI; grind
theorem det_rot (p q r : Pt) : detI q r p = detI p q r := by unfold detI; grind
theorem det_ring (A B C u y1 z1 v x2 z2 w x3 y3 : Int) : (A * u) * ((B * v) * (C * w) - (C * (2 * y3)) * (B * z2)) - (A * y1) * ((B * (2 * x2)) * (C * w) - (C * (2 * x3)) * (B * z2)) + (A * z1) * ((B * (2 * x2)) * (C * (2 * y3)) - (C * (2 * x3)) * (B * v)) =
    A * B * C * (u * v * w + 2 * (- u * y3 * z2 - y1 * x2 * w + y1 * x3 * z2 + 2 * z1 * x2 * y3 - z1 * x3 * v)) := by grind

/-- the determinant's twos -/
theorem det_odd {p q r : Pt} (hp : Box p) (hq : Box q) (hr : Box r) (cp : colP p = 0) (cq : colP q = 1) (cr : colP r = 2) : ∃ F : Int, detI p q r = 2 ^ (mt p + mt q + mt r) * F ∧ F % 2 = 1 := by
  obtain ⟨u, y1, z1, a1, a2, a3, a4⟩ := red_of hp cp
  obtain ⟨v, x2, z2, b1, b2, b3, b4⟩ := green_of hq cq
  obtain ⟨w, x3, y3, c1, c2, c3, c4⟩ := blue_of hr cr
  refine ⟨u * v * w + 2 * (- u * y3 * z2 - y1 * x2 * w + y1 * x3 * z2 + 2 * z1 * x2 * y3 - z1 * x3 * v), ?_, ?_⟩
  · unfold detI
    rw [a1, a3, a4, b1, b3, b4, c1, c3, c4, det_ring, Int.pow_add, Int.pow_add]
  · have e : (u * v * w) % 2 = 1 := by
      rw [Int.mul_emod, Int.mul_emod u v, a2, b2, c2]; decide
    omega
theorem det_any {p q r : Pt} (hp : Box p) (hq : Box q) (hr : Box r) (h : sgn (colP p) (colP q) (colP r) ≠ 0) : ∃ F : Int, detI p q r = 2 ^ (mt p + mt q + mt r) * F ∧ F % 2 = 1 := by
  have lp := colP_lt p
  have lq := colP_lt q
  have lr := colP_lt r
  have neg : ∀ {d W : Int}, (∃ F : Int, d = W * F ∧ F % 2 = 1) → ∃ F : Int, -d = W * F ∧ F % 2 = 1 := by
    rintro d W ⟨F, rfl, h⟩
    exact ⟨-F, by rw [Int.mul_neg], by omega⟩
  have cases3 : ∀ n : Nat, n < 3 → n = 0 ∨ n = 1 ∨ n = 2 := by omega
  rcases cases3 _ lp with a | a | a <;> rcases cases3 _ lq with b | b | b <;> rcases cases3 _ lr with c | c | c <;> rw [a, b, c] at h <;> first | exact absurd rfl h | skip
  · exact det_odd hp hq hr a b c
  · -- p red, q blue, r green
    have e : detI p q r = - detI p r q := by rw [← det_rot p q r, det_swap r q p, ← det_rot r q p]; rw [det_rot r q p, ← det_rot p r q]
    rw [e, Nat.add_assoc, Nat.add_comm (mt q), ← Nat.add_assoc]
    exact neg (det_odd hp hr hq a c b)
  · -- p green, q red, r blue
    rw [det_swap q p r, Nat.add_comm (mt p)]
    exact neg (det_odd hq hp hr b a c)
  · -- p green, q blue, r red
    rw [← det_rot p q r, ← det_rot q r p, Nat.add_comm (mt p + mt q), ← Nat.add_assoc]
    exact det_odd hr hp hq c a b
  · -- p blue, q red, r green
    rw [← det_rot p q r, Nat.add_assoc, Nat.add_comm (mt p)]
    exact det_odd hq hr hp b c a
  · -- p blue, q green, r red
    have e : detI p q r = - detI r q p := by rw [← det_rot p q r, det_swap r q p]
    rw [e, Nat.add_assoc, Nat.add_comm (mt p), Nat.add_comm (mt q)]
    exact neg (det_odd hr hq hp c b a)

theorem det_rest {p q r : Pt} (hp : Box p) (hq : Box q) (hr : Box r) (h : sgn (colP p) (colP q) (colP r) ≠ 0) : detI p q r % ((2 * 2 ^ (mt p + mt q + mt r) : Nat) : Int) = ((2 ^ (mt p + mt q + mt r) : Nat) : Int) := by
  obtain ⟨F, e, h2⟩ := det_any hp hq hr h
  have e3 : F = 2 * (F / 2) + 1 := by omega
  rw [e, e3]
  generalize (F / 2) = k
  have hW : (0 : Int) < 2 ^ (mt p + mt q + mt r) := Int.pow_pos (by decide)
  have e4 : ((2 * 2 ^ (mt p + mt q + mt r) : Nat) : Int) = 2 * 2 ^ (mt p + mt q + mt r) := by simp
  have e5 : ((2 ^ (mt p + mt q + mt r) : Nat) : Int) = 2 ^ (mt p + mt q + mt r) := by simp
  rw [e4, e5]
  generalize (2 : Int) ^ (mt p + mt q + mt r) = W at hW
  have e6 : W * (2 * k + 1) = W + (2 * W) * k := by grind
  rw [e6, Int.add_mul_emod_self_left, Int.emod_eq_of_lt (by omega) (by omega)]

/-! ## The sizes' product -/
def mxOk (a b c : Nat) : Bool := fmax3 (sz a) (sz b) (sz c) == sz (min (min a b) c)
theorem mx_all : (List.range 7).all (fun a => (List.range 7).all fun b => (List.range 6).all fun c => mxOk a b c) = true := by decide +kernel
theorem mx_sz {a b c : Nat} (ha : a ≤ 6) (hb : b ≤ 6) (hc : c ≤ 5) : fmax3 (sz a) (sz b) (sz c) = sz (min (min a b) c) := by
  have := List.all_eq_true.mp mx_all a (List.mem_range.mpr (by omega))
  have := List.all_eq_true.mp this b (List.mem_range.mpr (by omega))
  have := List.all_eq_true.mp this c (List.mem_range.mpr (by omega))
  exact eq_of_beq this
def prd (a b c : Nat) : UInt64 := Float64.mul (Float64.mul (sz a) (sz b)) (sz c)
def twOk (a b c : Nat) : Bool := !Float64.isZero (prd a b c) && Float64.isFinite (Float64.div (Float64.ofInt 1) (prd a b c)) && decide (fround (Float64.div (Float64.ofInt 1) (prd a b c)) = ((2 ^ (a + b + c) : Nat) : Int))
theorem tw_all : (List.range 6).all (fun a => (List.range 6).all fun b => (List.range 6).all fun c => twOk a b c) = true := by decide +kernel
theorem tw_sz {a b c : Nat} (ha : a ≤ 5) (hb : b ≤ 5) (hc : c ≤ 5) : Float64.isZero (prd a b c) = false ∧ Float64.isFinite (Float64.div (Float64.ofInt 1) (prd a b c)) = true ∧ fround (Float64.div (Float64.ofInt 1) (prd a b c)) = ((2 ^ (a + b + c) : Nat) : Int) := by
  have := List.all_eq_true.mp tw_all a (List.mem_range.mpr (by omega))
  have := List.all_eq_true.mp this b (List.mem_range.mpr (by omega))
  have := List.all_eq_true.mp this c (List.mem_range.mpr (by omega))
  simp only [twOk, Bool.and_eq_true, Bool.not_eq_true', decide_eq_true_eq] at this
  exact ⟨this.1.1, this.1.2, this.2⟩

/-! ## The header's texts -/
def nm3 (a b c : Nat) : Str := Txt.join ⟨#[]⟩ [ltr a, ltr b, ltr c]
/-- the text at a triangle's place -/
def nmAt (k : Int) (x : Str) : Str := if (k.fmod 2 != 0) = true then upperS x else x
noncomputable def cleanP (p : Params) (x : Str) : Bool := clean (Mine.hd.heap_39 p) x
def asked : List Str := ["RGB", "GBR", "BRG", "bgr", "grb", "rbg"]
noncomputable def nmOk (p : Params) (a b c : Nat) : Bool := cleanP p (nm3 a b c) && cleanP p (upperS (nm3 a b c)) && lowOk (nm3 a b c) && lowOk (upperS (nm3 a b c)) && !Builtin.Str.tooLong (upperS (nm3 a b c)).cps.size
theorem nm_all (p : Params) : (List.range 3).all (fun a => (List.range 3).all fun b => (List.range 3).all fun c => nmOk p a b c) = true := by kernel_rfl

def numS (k : Int) : Str := toString k
theorem num_all (p : Params) : (List.range 32).all (fun k => cleanP p (numS k)) = true := by kernel_rfl
noncomputable def restOk (p : Params) : Bool := cleanP p "rgbr" && cleanP p "rg" && cleanP p "0" && lowOk "rgbr" && lowOk "rg" && asked.all (fun q => lowOk q && cleanP p (lowerS q) && !(lowerS "rgbr" == lowerS q) && !(lowerS "rg" == lowerS q))
theorem rest_all (p : Params) : restOk p = true := by kernel_rfl
/-- which colours are asked for -/
def codes : List (Nat × Nat × Nat) := [(0, 1, 2), (1, 2, 0), (2, 0, 1), (2, 1, 0), (1, 0, 2), (0, 2, 1)]
def cmpOk (a b c : Nat) : Bool := (asked.zip codes).all fun q => ((lowerS (nm3 a b c) == lowerS q.1) == decide ((a, b, c) = q.2)) && ((lowerS (upperS (nm3 a b c)) == lowerS q.1) == decide ((a, b, c) = q.2))
theorem cmp_all : (List.range 3).all (fun a => (List.range 3).all fun b => (List.range 3).all fun c => cmpOk a b c) = true := by kernel_rfl

theorem nm_get (p : Params) {a b c : Nat} (ha : a < 3) (hb : b < 3) (hc : c < 3) : nmOk p a b c = true ∧ cmpOk a b c = true := by
  have h1 := List.all_eq_true.mp (nm_all p) a (List.mem_range.mpr ha)
  have h1 := List.all_eq_true.mp h1 b (List.mem_range.mpr hb)
  have h2 := List.all_eq_true.mp cmp_all a (List.mem_range.mpr ha)
  have h2 := List.all_eq_true.mp h2 b (List.mem_range.mpr hb)
  exact ⟨List.all_eq_true.mp h1 c (List.mem_range.mpr hc), List.all_eq_true.mp h2 c (List.mem_range.mpr hc)⟩

def triAt (T : List Tri) (k : Nat) : Tri := T.getD k (0, 0, 0)
def colT (col : Int → Nat) (t : Tri) : Nat × Nat × Nat := (col t.1, col t.2.1, col t.2.2)
def nmT (col : Int → Nat) (t : Tri) : Str := nm3 (col t.1) (col t.2.1) (col t.2.2)
/-- the table's rows -/
def rowsOf (col : Int → Nat) (T : List Tri) : List (Str × Str) := (List.range T.length).map fun k : Nat => (nmAt k (nmT col (triAt T k)), numS k)
def tabOf (col : Int → Nat) (T : List Tri) : List (Str × Str) := rowsOf col T ++ ([("rgbr", "0"), ("rg", "0")] : List (Str × Str))
/-- the places of the triangles of one colouring -/
def placesOf (col : Int → Nat) (T : List Tri) (cd : Nat × Nat × Nat) : List Nat := (List.range T.length).filter fun k => decide (colT col (triAt T k) = cd)

section
variable {col : Int → Nat} (hc : ∀ c, col c < 3) (T : List Tri) (p : Params)
include hc p
theorem tab_clean (hT : T.length ≤ 32) : ∀ r ∈ tabOf col T, cleanP p r.1 = true ∧ cleanP p r.2 = true ∧ lowOk r.1 = true := by
  intro r hr
  have hz := rest_all p
  simp only [restOk, Bool.and_eq_true] at hz
  rcases List.mem_append.mp hr with hr | hr
  · obtain ⟨k, hk, rfl⟩ := List.mem_map.mp hr
    have hk' : k < T.length := List.mem_range.mp hk
    have h1 := (nm_get p (hc (triAt T k).1) (hc (triAt T k).2.1) (hc (triAt T k).2.2)).1
    simp only [nmOk, Bool.and_eq_true] at h1
    obtain ⟨⟨⟨⟨a1, a2⟩, a3⟩, a4⟩, a5⟩ := h1
    have h2 := List.all_eq_true.mp (num_all p) k (List.mem_range.mpr (by omega))
    dsimp only
    unfold nmAt
    split
    · exact ⟨a2, h2, a4⟩
    · exact ⟨a1, h2, a3⟩
  · simp only [List.mem_cons, List.not_mem_nil, or_false] at hr
    rcases hr with rfl | rfl
    · exact ⟨hz.1.1.1.1.1, hz.1.1.1.2, hz.1.1.2⟩
    · exact ⟨hz.1.1.1.1.2, hz.1.1.1.2, hz.1.2⟩
theorem tab_all {q : Str} {cd : Nat × Nat × Nat} (hq : (q, cd) ∈ asked.zip codes) (hq' : q ∈ asked) : gotAll (tabOf col T) q = (placesOf col T cd).map fun k : Nat => numS k := by
  have hz := rest_all p
  simp only [restOk, Bool.and_eq_true] at hz
  have hqz := List.all_eq_true.mp hz.2 q hq'
  simp only [Bool.and_eq_true, Bool.not_eq_true'] at hqz
  have n1 : (lowerS (Str.ofString "rgbr") == lowerS q) = false := hqz.1.2
  have n2 : (lowerS (Str.ofString "rg") == lowerS q) = false := hqz.2
  unfold gotAll tabOf
  rw [List.filter_append, List.map_append]
  have e2 : ([(Str.ofString "rgbr", Str.ofString "0"), (Str.ofString "rg", Str.ofString "0")].filter fun p => lowerS p.1 == lowerS q) = [] := by
    rw [List.filter_cons, List.filter_cons]
    simp [n1, n2]
  rw [show ([("rgbr", "0"), ("rg", "0")] : List (Str × Str)) = [(Str.ofString "rgbr", Str.ofString "0"), (Str.ofString "rg", Str.ofString "0")] from rfl, e2, List.map_nil, List.append_nil]
  unfold rowsOf placesOf
  rw [List.filter_map, List.map_map]
  have e3 : (List.range T.length).filter ((fun p => lowerS p.1 == lowerS q) ∘ fun k : Nat => (nmAt k (nmT col (triAt T k)), numS k)) = (List.range T.length).filter fun k => decide (colT col (triAt T k) = cd) := by
    apply List.filter_congr
    intro k hk
    have h1 := (nm_get p (hc (triAt T k).1) (hc (triAt T k).2.1) (hc (triAt T k).2.2)).2
    have h1 := List.all_eq_true.mp h1 (q, cd) hq
    simp only [Bool.and_eq_true, beq_iff_eq] at h1
    show (lowerS (nmAt k (nmT col (triAt T k))) == lowerS q) = decide (colT col (triAt T k) = cd)
    unfold nmAt nmT colT
    split
    · exact h1.2
    · exact h1.1
  rw [e3]
  rfl
end
theorem tri_map (T : List Tri) : (List.range T.length).map (triAt T) = T := by
  apply List.ext_getElem
  · simp
  · intro i h1 h2
    simp [triAt, h2]
theorem places_len (col : Int → Nat) (T : List Tri) (cd : Nat × Nat × Nat) : (placesOf col T cd).length = (T.filter fun t => decide (colT col t = cd)).length := by
  have e : (T.filter fun t => decide (colT col t = cd)) = ((List.range T.length).map (triAt T)).filter fun t => decide (colT col t = cd) := by rw [tri_map]
  rw [e, List.filter_map, List.length_map]
  rfl
def aheadOf (col : Int → Nat) (T : List Tri) : List Nat := [(0, 1, 2), (1, 2, 0), (2, 0, 1)].flatMap (placesOf col T)
def behindOf (col : Int → Nat) (T : List Tri) : List Nat := [(2, 1, 0), (1, 0, 2), (0, 2, 1)].flatMap (placesOf col T)
theorem sgn_code : (List.range 3).all (fun a => (List.range 3).all fun b => (List.range 3).all fun c => decide (sgn a b c =
    (if (a, b, c) = (0, 1, 2) then 1 else 0) + (if (a, b, c) = (1, 2, 0) then 1 else 0) + (if (a, b, c) = (2, 0, 1) then 1 else 0) - (if (a, b, c) = (2, 1, 0) then 1 else 0) - (if (a, b, c) = (1, 0, 2) then 1 else 0) - (if (a, b, c) = (0, 2, 1) then 1 else 0))) = true := by decide
theorem cnt_cons {cd : Nat × Nat × Nat} {col : Int → Nat} {t : Tri} {T : List Tri} : (((t :: T).filter fun t => decide (colT col t = cd)).length : Int) = (if colT col t = cd then 1 else 0) + ((T.filter fun t => decide (colT col t = cd)).length : Int) := by
  rw [List.filter_cons]
  by_cases h : colT col t = cd
  · rw [if_pos (by simpa using h), if_pos h, List.length_cons]; omega
  · rw [if_neg (by simpa using h), if_neg h]; omega
theorem count_wts {col : Int → Nat} (hc : ∀ c, col c < 3) (T : List Tri) : ((aheadOf col T).length : Int) - (behindOf col T).length = wts col T := by
  have e1 : ((aheadOf col T).length : Int) = (T.filter fun t => decide (colT col t = (0, 1, 2))).length + (T.filter fun t => decide (colT col t = (1, 2, 0))).length + (T.filter fun t => decide (colT col t = (2, 0, 1))).length := by
    simp only [aheadOf, List.flatMap_cons, List.flatMap_nil, List.append_nil, List.length_append, places_len]
    omega
  have e2 : ((behindOf col T).length : Int) = (T.filter fun t => decide (colT col t = (2, 1, 0))).length + (T.filter fun t => decide (colT col t = (1, 0, 2))).length + (T.filter fun t => decide (colT col t = (0, 2, 1))).length := by
    simp only [behindOf, List.flatMap_cons, List.flatMap_nil, List.append_nil, List.length_append, places_len]
    omega
  rw [e1, e2]
  clear e1 e2
  induction T with
  | nil => rfl
  | cons t T ih =>
    have h := List.all_eq_true.mp sgn_code (col t.1) (List.mem_range.mpr (hc _))
    have h := List.all_eq_true.mp h (col t.2.1) (List.mem_range.mpr (hc _))
    have h := of_decide_eq_true (List.all_eq_true.mp h (col t.2.2) (List.mem_range.mpr (hc _)))
    rw [wts_cons, cnt_cons, cnt_cons, cnt_cons, cnt_cons, cnt_cons, cnt_cons]
    have e : wt col t = sgn (col t.1) (col t.2.1) (col t.2.2) := rfl
    rw [e, h]
    unfold colT at ih ⊢
    omega
theorem places_mem {col : Int → Nat} {T : List Tri} {cd : Nat × Nat × Nat} {k : Nat} (h : k ∈ placesOf col T cd) : k < T.length ∧ colT col (triAt T k) = cd := by
  unfold placesOf at h
  rw [List.mem_filter] at h
  exact ⟨List.mem_range.mp h.1, by simpa using h.2⟩
theorem both_mem {col : Int → Nat} {T : List Tri} {k : Nat} (h : k ∈ aheadOf col T ++ behindOf col T) : k < T.length ∧ sgn (col (triAt T k).1) (col (triAt T k).2.1) (col (triAt T k).2.2) ≠ 0 := by
  have key : ∀ cd : Nat × Nat × Nat, k ∈ placesOf col T cd → sgn cd.1 cd.2.1 cd.2.2 ≠ 0 → k < T.length ∧ sgn (col (triAt T k).1) (col (triAt T k).2.1) (col (triAt T k).2.2) ≠ 0 := by
    intro cd hk hs
    obtain ⟨h1, h2⟩ := places_mem hk
    subst h2
    exact ⟨h1, hs⟩
  simp only [aheadOf, behindOf, List.flatMap_cons, List.flatMap_nil, List.append_nil, List.mem_append] at h
  rcases h with (h | h | h) | (h | h | h)
  all_goals exact key _ h (by decide)

/-! ## For the law's own walk -/
theorem Ev.callK {c : Cx} {env : Env} {n : Nat} {ρ : Vars} {x : Str} {p pos : Pos} {e : PySem.Expr} {es : List PySem.Expr} {a : Addr} {ds : List D} {d : D} (K : EnvOk env) (hk : env.kindOf x = some .globalImplicit) (g : GlobIs c x (.ref a)) (hkp : keepIn c.K (.ref a) = true)
    (ha : Evs c env n ρ (e :: es) ds) (h : CallTo c n (.ref a) ds d) (hse : starEach (e :: es) env = (false, eval e env) :: starEach es env := by rfl) (hpl : (backTo pos (starEach es env)).any (·.1) = false := by rfl) (hd : (x == ("__debug__" : Str)) = false := by decide) :
    Ev c env n ρ (.Call (.Name x p) (e :: es) [] pos) d := by
  intro A s R I S
  show wpAny c.M A (do callWith pos (← eval (.Name x p) env) [] (backTo pos (starEach (e :: es) env)) (backToKw pos (keywordEach [] env))) _ _ s
  refine wpAny_bind (ld_glob K I hk g ?_ hd)
  refine callWith_K (h₀ := c.B) c.KB hkp (wpAny_mono (ha A s pos R I S) (fun vs s₁ y => ⟨y.1.inv.K, ?_⟩) fun _ _ z => z) hse hpl
  exact Gives.after y.1 (h A s₁ _ R y.1.inv y.2)
theorem upFrom_range : ∀ (n : Nat) (x : Int), upFrom x n = (List.range n).map fun k : Nat => D.int (x + k)
  | 0, x => rfl
  | n + 1, x => by
    rw [upFrom, upFrom_range n (x + 1), List.range_succ_eq_map, List.map_cons, List.map_map]
    congr 1
    · simp
    · apply List.map_congr_left
      intro k _
      show D.int _ = D.int _
      congr 1
      simp; omega
theorem upFrom_zero (n : Nat) : upFrom 0 n = (List.range n).map fun k : Nat => D.int k := by
  rw [upFrom_range]
  apply List.map_congr_left
  intro k _
  show D.int _ = D.int _
  congr 1
  omega
/-- an if whose ways meet -/
theorem Ex.ifJ {c : Cx} {env : Env} {s₀ : Shared} {n : Nat} {ρ : Vars} (ρ' : Vars) {t : PySem.Expr} {x y : List Stmt} {pos : Pos} {b : Bool} {rest : List Stmt} {P : Flow → Shared → Prop} (h : Tru c env n ρ t b)
    (h1 : b = true → Ex c env s₀ n ρ x (fun f s => f = .next ∧ Sta c env s₀ ρ' s)) (h2 : b = false → Ex c env s₀ n ρ y (fun f s => f = .next ∧ Sta c env s₀ ρ' s)) (hr : Ex c env s₀ n ρ' rest P) : Ex c env s₀ n ρ (.If t x y pos :: rest) P := by
  refine Ex.if_ h (fun q => (h1 q).mono fun f s z => ?_) (fun q => (h2 q).mono fun f s z => ?_)
  · obtain ⟨rfl, S⟩ := z; exact ⟨ρ', S, hr⟩
  · obtain ⟨rfl, S⟩ := z; exact ⟨ρ', S, hr⟩
def ptD (p : Pt) : D := .tup [.int p.1, .int p.2.1, .int p.2.2]
theorem ptD_plain (p : Pt) : (ptD p).plain = true := by simp [ptD, D.plain, D.plains]
theorem flats_map {α : Type} {g : α → D} : ∀ {xs : List α}, (∀ x ∈ xs, (g x).flat = true) → D.flats (xs.map g) = true
  | [], _ => by simp [D.flats]
  | x :: xs, h => by rw [List.map_cons, D.flats, h x (by simp), flats_map fun y hy => h y (by simp [hy])]; rfl
def tg (t : Tri) (i : Int) : Int := if i = 0 then t.1 else if i = 1 then t.2.1 else t.2.2
def sideD (t : Tri) (i : Int) : D := .tup [.int (tg t i), .int (tg t ((i + 1).fmod 3))]
theorem m_join : MethOk "str" "join" "str.join" := ⟨F.plainAttrs_str, F.slot_str_join, F.type_str_join⟩

/-! ## The law is called where no token is known -/
theorem newEnv_one {M : Model} {A : Around} {E : Value → Shared → Prop} {s : Shared} {scope : Scope} {globals : Addr} {x : Str} {v : Value} {qual : Str} {func : Option Addr} {code : Value} {builtins : Addr} {Q : Env → Shared → Prop} (hk : scope.kind = .function) (hl : scope.names.lookup x = some .local)
    (hQ : ∀ s', InCallC s s.heap.objs.size (fun y => if y = x then some v else none) (cellsFrom (s.heap.objs.size + 1) scope.names []) (fun _ => none) s' → 0 < s'.toks → Q (newEnv scope s.heap.objs.size globals (cellsFrom (s.heap.objs.size + 1) scope.names []) qual func code none builtins) s') :
    wpAny M A (newFunctionEnv scope globals [] [(x, v)] qual func code none builtins) Q E s := by
  simp only [newFunctionEnv, Option.isSome_none, Bool.false_eq_true, if_false]
  refine wpAny_bind (wpAny_alloc ?_)
  refine wpAny_bind (wpAny_layCells _ (fun name kind cells => by cases hkc : kind == NameKind.cell <;> simp [hkc]) _ _ _ _ ?_)
  have ok := cellsFrom_ok scope.names (s.heap.push { cls := .type "frame", data := .dict #[] }) (s.heap.objs.size + 1) [] ⟨fun _ _ hm => (nomatch hm), List.Pairwise.nil⟩ (by rw [Heap.size_push]; exact Nat.le_refl _)
  rw [Heap.size_push] at ok
  rw [show ({ s with heap := s.heap.push { cls := .type "frame", data := .dict #[] } } : Shared).heap.objs.size = s.heap.objs.size + 1 from Heap.size_push ..]
  have X : InCallC s s.heap.objs.size (fun _ => none) (cellsFrom (s.heap.objs.size + 1) scope.names []) (fun _ => none) { s with heap := pushCells (s.heap.push { cls := .type "frame", data := .dict #[] }) scope.names } :=
    ⟨⟨⟨_, _, rfl⟩, (Heap.Ns.new s.heap (.type "frame")).keeps (pushCells_keeps _ _), fun b o e => pushCells_keeps _ _ b o (Heap.get?_push_of_some _ e), Nat.le_refl _⟩,
      fun n c hc => (ok.empty n c (mem_of_lookup hc)).1, ok.apart, fun n c hm => (ok.empty n c hm).2⟩
  rw [List.forIn_cons]
  refine wpAny_bind (wpAny_bind (wpAny_bind ?_))
  refine wpAny_storeName_local (env := newEnv scope s.heap.objs.size globals (cellsFrom (s.heap.objs.size + 1) scope.names []) qual func code none builtins) hl X.toInCall.ns (fun h' hn' hs' => ?_) (by show (scope.kind == .class || (scope.kind == .module && _)) = false; rw [hk]; rfl)
  refine wpAny_pure (wpAny_pure ?_)
  refine wpAny_pure (hQ _ ⟨⟨⟨h', _, rfl⟩, hn', fun b o e => ?_, Nat.le_refl _⟩, fun k c hc => ?_, X.apart, X.above⟩ (Nat.succ_pos _))
  · exact hs'.extBut b o (Nat.ne_of_lt (Heap.lt_size e)) (X.toInCall.keep b o e)
  · exact (X.cell k c hc).sameBut hs' (Nat.ne_of_gt (X.above k c (mem_of_lookup hc)))

def CallTo0 (c : Cx) (n : Nat) (f : Value) (ds : List D) (d : D) : Prop :=
  ∀ A s vs, Room A n → (∀ tk, 0 < tk → Inv c s.heap tk) → Reps c.X s.heap vs ds → Gives c A (call f vs) d s
theorem CallTo0.fn1 {c : Cx} {f : Addr} {fd : FuncData} {body : List Stmt} {n : Nat} {d₀ d : D} (x : Str) (ok : FnOk c f fd body) (hbind : ∀ v, bindArgs fd ⟨[v], []⟩ = pure [(x, v)]) (hx : x ≠ "_headers") (hkind : fd.scope.names.lookup x = some .local)
    (hb : ∀ L s, FnEnv c (callEnvC fd L f) s → Ex c (callEnvC fd L f) s n [(x, d₀)] body (RetP c s d)) : CallTo0 c (n + 1) (.ref f) [d₀] d := by
  intro A s vs R I0 r
  obtain ⟨v, rfl, rv⟩ := one_of r
  have I := I0 1 Nat.one_pos
  obtain ⟨o, ho, hd⟩ := ok.obj
  refine wpAny_call ?_
  refine codeAny_call_function R.depthLt (I.base _ _ ho) hd ok.co ok.gen ok.body (ok.code.keeps I.base) ?_
  rw [hbind, ok.clo]
  refine wpAny_pure (newEnv_one ok.kind hkind fun s' X htk => ?_)
  have hlim : s.heap.NoLimit := c.lim.keeps I.base
  refine ⟨hlim.keeps X.toInCall.keep, codeAny_func ?_⟩
  obtain ⟨h₁, tk, rfl, hk⟩ := X.done
  have hfresh : s.heap.get? s.heap.objs.size = none := get?_size _
  have F : FnEnv c (callEnvC fd s.heap.objs.size f) s := by
    refine ⟨⟨⟨ok.kind, ok.glob, ok.blt⟩, hfresh, fun a e => I.fresh e, fun y z a e1 e2 => name_of_addr X.apart (mem_of_lookup e1) (mem_of_lookup e2)⟩, fun y a e => ?_⟩
    have := X.above y a (mem_of_lookup e)
    cases q : s.heap.get? a with
    | none => rfl
    | some o => exact absurd (Heap.lt_size q) (Nat.not_lt.mpr (Nat.le_of_lt this))
  have ext : Ext s.heap h₁ := .of_keep hk
  have S : Sta c (callEnvC fd s.heap.objs.size f) s [(x, d₀)] { s with heap := h₁, toks := tk } := by
    have look : ∀ y d', ([(x, d₀)] : Vars).lookup y = some d' → y = x ∧ d' = d₀ := by
      intro y d' e
      rw [List.lookup_cons] at e
      cases q : y == x with
      | true => rw [q] at e; cases e; exact ⟨eq_of_beq q, rfl⟩
      | false => rw [q] at e; cases e
    refine ⟨(I0 tk htk).keeps hk, ext, ⟨⟨_, X.toInCall.ns, ?_, fun y d' e k => ?_⟩, fun y d' e k => ?_, fun y a e => ⟨_, X.cell y a e⟩, fun y d' e => ?_⟩, rfl⟩
    · rw [if_neg (Ne.symm hx)]
    · obtain ⟨rfl, rfl⟩ := look y d' e
      exact ⟨v, if_pos rfl, rv.ext ext⟩
    · obtain ⟨rfl, rfl⟩ := look y d' e
      have k' : fd.scope.names.lookup y = some .cell ∨ fd.scope.names.lookup y = some .free := k
      rw [hkind] at k'; rcases k' with k' | k' <;> cases k'
    · obtain ⟨rfl, rfl⟩ := look y d' e
      exact .inl hkind
  refine wpAny_mono (hb _ _ F (A.deeper _) _ R.deeper S) (fun fl s'' q => ?_) fun _ _ z => z.elim
  obtain ⟨_, w, rfl, st, rp⟩ := q
  exact ⟨st, rp⟩

abbrev envHere {c : Cx} {env : Env} {s : Shared} (_ : FnEnv c env s) : Env := env
theorem fmod_nat (a : Int) (m : Nat) (hm : 0 < m) : ∃ X : Nat, a.fmod m = X ∧ X < m := by
  rw [Int.fmod_eq_emod_of_nonneg _ (by omega)]
  have h1 := Int.emod_nonneg a (show (m : Int) ≠ 0 by omega)
  have h2 := Int.emod_lt_of_pos a (show (0 : Int) < m by omega)
  exact ⟨(a % m).toNat, by omega, by omega⟩
def sidesL (T : List Tri) : List D := T.flatMap fun t => ([0, 1, 2] : List Int).map (sideD t)
theorem sides_len (T : List Tri) : (sidesL T).length = 3 * T.length := by
  induction T with
  | nil => rfl
  | cons t T ih =>
    unfold sidesL at ih ⊢
    rw [List.flatMap_cons, List.length_append, ih]
    simp; omega
theorem side_get {T : List Tri} {J : Nat} (h : J < (sidesL T).length) : ∃ t ∈ T, ∃ a b : Int, (sidesL T)[J]? = some (.tup [.int a, .int b]) ∧ mem3 t a ∧ mem3 t b ∧ (Dist t → a ≠ b) := by
  have hm : (sidesL T)[J] ∈ sidesL T := List.getElem_mem h
  unfold sidesL at hm
  obtain ⟨t, ht, hm⟩ := List.mem_flatMap.mp hm
  obtain ⟨i, hi, e⟩ := List.mem_map.mp hm
  refine ⟨t, ht, tg t i, tg t ((i + 1).fmod 3), ?_, ?_⟩
  · rw [List.getElem?_eq_getElem h]
    exact congrArg some e.symm
  · simp only [List.mem_cons, List.not_mem_nil, or_false] at hi
    rcases hi with rfl | rfl | rfl
    · exact ⟨.inl rfl, .inr (.inl rfl), fun d => d.1⟩
    · exact ⟨.inr (.inl rfl), .inr (.inr rfl), fun d => d.2.1⟩
    · exact ⟨.inr (.inr rfl), .inl rfl, fun d => d.2.2⟩
theorem Nice.ne {pts : List Pt} {T : List Tri} (N : Nice pts T) : 0 < T.length := by
  cases T with
  | nil => have := N.one; rw [wts_nil] at this; omega
  | cons _ _ => simp
theorem sw_list (es p t l env) : swapsWith (PySem.Expr.List es p) t l env = pure false := rfl
theorem Ev.pt3 {c : Cx} {env : Env} {n : Nat} {ρ : Vars} {a b d : Int} {k1 k2 k3 k : Nat} {p1 p2 p3 p : Pos} : Ev c env n ρ (.Tuple [.Constant (.int a) k1 p1, .Constant (.int b) k2 p2, .Constant (.int d) k3 p3] k p) (.tup [.int a, .int b, .int d]) :=
  Ev.tuple (Evs.cons Ev.int (Evs.cons Ev.int (Evs.cons Ev.int Evs.nil)))
theorem EvF.l4 {c : Cx} {env : Env} {n : Nat} {ρ : Vars} {e1 e2 e3 e4 : PySem.Expr} {d1 d2 d3 d4 : D} {p : Pos} (h1 : Ev c env n ρ e1 d1) (h2 : Ev c env n ρ e2 d2) (h3 : Ev c env n ρ e3 d3) (h4 : Ev c env n ρ e4 d4)
    (k1 : starEach [e1, e2, e3, e4] env = (false, eval e1 env) :: starEach [e2, e3, e4] env := by rfl) (k2 : starEach [e2, e3, e4] env = (false, eval e2 env) :: starEach [e3, e4] env := by rfl) (k3 : starEach [e3, e4] env = (false, eval e3 env) :: starEach [e4] env := by rfl) (k4 : starEach [e4] env = (false, eval e4 env) :: starEach [] env := by rfl) :
    EvF c env n ρ (.List [e1, e2, e3, e4] p) [d1, d2, d3, d4] := EvF.list (Evs.cons h1 (Evs.cons h2 (Evs.cons h3 (Evs.cons h4 Evs.nil k4) k3) k2) k1)
theorem Ev.l2 {c : Cx} {env : Env} {n : Nat} {ρ : Vars} {e1 e2 : PySem.Expr} {d1 d2 : D} {p : Pos} (h1 : Ev c env n ρ e1 d1) (h2 : Ev c env n ρ e2 d2)
    (k1 : starEach [e1, e2] env = (false, eval e1 env) :: starEach [e2] env := by rfl) (k2 : starEach [e2] env = (false, eval e2 env) :: starEach [] env := by rfl) :
    Ev c env n ρ (.List [e1, e2] p) (.lst Option.none [d1, d2]) := Ev.list (Evs.cons h1 (Evs.cons h2 Evs.nil k2) k1)
/-- the loop's names -/
def roundV (al : Addr) (ns : List Int) (pts : List Pt) (T : List Tri) : Vars := [(Str.ofString "points", .lst (some al) (pts.map ptD)), (Str.ofString "triangles", .lst Option.none (T.map Tri.d)), (Str.ofString "script", .scr ns)]

theorem pts_get {pts : List Pt} {a : Int} (h : 0 ≤ a ∧ a < pts.length) : (pts.map ptD)[a.toNat]? = some (.tup [.int (pnt pts a).1, .int (pnt pts a).2.1, .int (pnt pts a).2.2]) := by
  have hl : a.toNat < pts.length := by omega
  unfold pnt
  rw [List.getElem?_map, List.getD_eq_getElem?_getD, List.getElem?_eq_getElem hl]
  rfl
def szD (p : Pt) : D := .lst Option.none [.flt (sz (tzc p.1)), .flt (sz (tzc p.2.1)), .flt (sz (tzc p.2.2))]
def letL (pts : List Pt) : List Str := pts.map fun p => ltr (colP p)
theorem let_none (pts : List Pt) : (letL pts).contains (Str.ofString "") = false := by
  unfold letL
  rw [Bool.eq_false_iff]
  intro h
  rw [List.contains_iff_mem] at h
  obtain ⟨p, _, e⟩ := List.mem_map.mp h
  have := congrArg (fun x : Str => x.cps.size) e
  have e1 : (ltr (colP p)).cps.size = 1 := rfl
  have e2 : (Str.ofString "").cps.size = 0 := by decide
  rw [e1, e2] at this
  omega
theorem let_get {pts : List Pt} {j : Int} (h : 0 ≤ j ∧ j < pts.length) : ((letL pts).map D.str)[j.toNat]? = some (.str (ltr (colI pts j))) := by
  have hl : j.toNat < pts.length := by omega
  unfold letL colI pnt
  rw [List.map_map, List.getElem?_map, List.getD_eq_getElem?_getD, List.getElem?_eq_getElem hl]
  rfl
theorem Src.cast {c : Cx} {env : Env} {n : Nat} {ρ : Vars} {e : PySem.Expr} {ds ds' : List D} (h : Src c env n ρ e ds) (q : ds = ds') : Src c env n ρ e ds' := q ▸ h
theorem Ev.st2 {c : Cx} {env : Env} {n : Nat} {ρ : Vars} {a b : Str} {k1 k2 k : Nat} {p1 p2 p : Pos} : Ev c env n ρ (.Tuple [.Constant (.str a) k1 p1, .Constant (.str b) k2 p2] k p) (pairD (a, b)) :=
  Ev.tuple (Evs.cons Ev.str (Evs.cons Ev.str Evs.nil))
theorem Ev.l3 {c : Cx} {env : Env} {n : Nat} {ρ : Vars} {e1 e2 e3 : PySem.Expr} {d1 d2 d3 : D} {p : Pos} (h1 : Ev c env n ρ e1 d1) (h2 : Ev c env n ρ e2 d2) (h3 : Ev c env n ρ e3 d3)
    (k1 : starEach [e1, e2, e3] env = (false, eval e1 env) :: starEach [e2, e3] env := by rfl) (k2 : starEach [e2, e3] env = (false, eval e2 env) :: starEach [e3] env := by rfl) (k3 : starEach [e3] env = (false, eval e3 env) :: starEach [] env := by rfl) :
    Ev c env n ρ (.List [e1, e2, e3] p) (.lst Option.none [d1, d2, d3]) := Ev.list (Evs.cons h1 (Evs.cons h2 (Evs.cons h3 Evs.nil k3) k2) k1)
theorem names_get {col : Int → Nat} {T : List Tri} {k : Nat} (h : k < T.length) : (T.map fun t => D.str (nmT col t))[((k : Int)).toNat]? = some (.str (nmT col (triAt T k))) := by
  rw [Int.toNat_natCast, List.getElem?_map, List.getElem?_eq_getElem h]
  unfold triAt
  rw [List.getD_eq_getElem?_getD, List.getElem?_eq_getElem h]
  rfl
theorem tab_map (col : Int → Nat) (T : List Tri) : ((List.range T.length).map fun k : Nat => pairD (nmAt k (nmT col (triAt T k)), numS k)) ++ [pairD ("rgbr", "0"), pairD ("rg", "0")] = (tabOf col T).map pairD := by
  unfold tabOf rowsOf
  rw [List.map_append, List.map_map]
  rfl
theorem tab_len (col : Int → Nat) (T : List Tri) : (tabOf col T).length = T.length + 2 := by
  unfold tabOf rowsOf
  simp
theorem ask_ok (p : Params) : ∀ q ∈ asked, lowOk q = true ∧ cleanP p (lowerS q) = true := by
  intro q hq
  have hz := rest_all p
  simp only [restOk, Bool.and_eq_true] at hz
  have h := List.all_eq_true.mp hz.2 q hq
  simp only [Bool.and_eq_true] at h
  exact ⟨h.1.1.1, h.1.1.2⟩
def askA : List Str := ["RGB", "GBR", "BRG"]
def askB : List Str := ["bgr", "grb", "rbg"]
theorem askA_mem : ∀ q ∈ askA, q ∈ asked := fun q h => by
  simp only [askA, asked, List.mem_cons, List.not_mem_nil, or_false] at h ⊢
  rcases h with h | h | h <;> simp [h]
theorem askB_mem : ∀ q ∈ askB, q ∈ asked := fun q h => by
  simp only [askB, asked, List.mem_cons, List.not_mem_nil, or_false] at h ⊢
  rcases h with h | h | h <;> simp [h]
theorem ahead_eq {col : Int → Nat} (hc : ∀ c, col c < 3) (T : List Tri) (p : Params) : (askA.flatMap fun q => (gotAll (tabOf col T) q).map fun x => D.str x) = (aheadOf col T).map fun k : Nat => D.str (numS k) := by
  have h1 := tab_all hc T p (q := "RGB") (cd := (0, 1, 2)) (.head _) (.head _)
  have h2 := tab_all hc T p (q := "GBR") (cd := (1, 2, 0)) (.tail _ (.head _)) (.tail _ (.head _))
  have h3 := tab_all hc T p (q := "BRG") (cd := (2, 0, 1)) (.tail _ (.tail _ (.head _))) (.tail _ (.tail _ (.head _)))
  unfold askA aheadOf
  simp only [List.flatMap_cons, List.flatMap_nil, List.append_nil, List.map_append]
  rw [h1, h2, h3]
  simp only [List.map_map]
  rfl
theorem behind_eq {col : Int → Nat} (hc : ∀ c, col c < 3) (T : List Tri) (p : Params) : (askB.flatMap fun q => (gotAll (tabOf col T) q).map fun x => D.str x) = (behindOf col T).map fun k : Nat => D.str (numS k) := by
  have h1 := tab_all hc T p (q := "bgr") (cd := (2, 1, 0)) (.tail _ (.tail _ (.tail _ (.head _)))) (.tail _ (.tail _ (.tail _ (.head _))))
  have h2 := tab_all hc T p (q := "grb") (cd := (1, 0, 2)) (.tail _ (.tail _ (.tail _ (.tail _ (.head _))))) (.tail _ (.tail _ (.tail _ (.tail _ (.head _)))))
  have h3 := tab_all hc T p (q := "rbg") (cd := (0, 2, 1)) (.tail _ (.tail _ (.tail _ (.tail _ (.tail _ (.head _)))))) (.tail _ (.tail _ (.tail _ (.tail _ (.tail _ (.head _))))))
  unfold askB behindOf
  simp only [List.flatMap_cons, List.flatMap_nil, List.append_nil, List.map_append]
  rw [h1, h2, h3]
  simp only [List.map_map]
  rfl
theorem places_le (col : Int → Nat) (T : List Tri) (cd : Nat × Nat × Nat) : (placesOf col T cd).length ≤ T.length := by
  rw [places_len]; exact List.length_filter_le _ _
theorem ahead_le (col : Int → Nat) (T : List Tri) : (aheadOf col T).length ≤ 3 * T.length ∧ (behindOf col T).length ≤ 3 * T.length := by
  have h := places_le col T
  simp only [aheadOf, behindOf, List.flatMap_cons, List.flatMap_nil, List.append_nil, List.length_append]
  have := h (0, 1, 2); have := h (1, 2, 0); have := h (2, 0, 1); have := h (2, 1, 0); have := h (1, 0, 2); have := h (0, 2, 1)
  omega
theorem tris_get {T : List Tri} {k : Nat} (h : k < T.length) : (T.map Tri.d)[((k : Int)).toNat]? = some (.tup [.int (triAt T k).1, .int (triAt T k).2.1, .int (triAt T k).2.2]) := by
  rw [Int.toNat_natCast, List.getElem?_map, List.getElem?_eq_getElem h]
  unfold triAt
  rw [List.getD_eq_getElem?_getD, List.getElem?_eq_getElem h]
  rfl
theorem tri_mem {T : List Tri} {k : Nat} (h : k < T.length) : triAt T k ∈ T := by
  unfold triAt
  rw [List.getD_eq_getElem?_getD, List.getElem?_eq_getElem h]
  exact List.getElem_mem h
theorem cols_get {pts : List Pt} {a : Int} (h : 0 ≤ a ∧ a < pts.length) : (pts.map szD)[a.toNat]? = some (.lst Option.none [.flt (sz (tzc (pnt pts a).1)), .flt (sz (tzc (pnt pts a).2.1)), .flt (sz (tzc (pnt pts a).2.2))]) := by
  have hl : a.toNat < pts.length := by omega
  unfold pnt
  rw [List.getElem?_map, List.getD_eq_getElem?_getD, List.getElem?_eq_getElem hl]
  rfl
theorem prod_small {a b : Nat} (ha : a < 64) (hb : b < 64) : 0 ≤ (a : Int) * b ∧ (a : Int) * b ≤ 4096 := by
  have h : a * b ≤ 64 * 64 := Nat.mul_le_mul (by omega) (by omega)
  have e : (a : Int) * b = ((a * b : Nat) : Int) := by simp
  rw [e]; omega
theorem prod_small2 {a : Nat} {w : Int} (ha : a < 64) (h1 : -4096 ≤ w) (h2 : w ≤ 4096) : -262144 ≤ (a : Int) * w ∧ (a : Int) * w ≤ 262144 := by
  have e : ((a : Int) * w).natAbs = a * w.natAbs := by rw [Int.natAbs_mul]; rfl
  have h : a * w.natAbs ≤ 64 * 4096 := Nat.mul_le_mul (by omega) (by omega)
  omega
theorem det_small {p q r : Pt} (hp : Box p) (hq : Box q) (hr : Box r) : (detI p q r).natAbs < 2 ^ 40 := by
  obtain ⟨p1, p2, p3, p4⟩ := hp
  obtain ⟨q1, q2, q3, q4⟩ := hq
  obtain ⟨r1, r2, r3, r4⟩ := hr
  have a1 := prod_small q2 r4
  have a2 := prod_small r2 q4
  have a3 := prod_small q1 r4
  have a4 := prod_small r1 q4
  have a5 := prod_small q1 r2
  have a6 := prod_small r1 q2
  have b1 := prod_small2 (w := (q.2.1 : Int) * r.2.2 - (r.2.1 : Int) * q.2.2) p1 (by omega) (by omega)
  have b2 := prod_small2 (w := (q.1 : Int) * r.2.2 - (r.1 : Int) * q.2.2) p2 (by omega) (by omega)
  have b3 := prod_small2 (w := (q.1 : Int) * r.2.1 - (r.1 : Int) * q.2.1) p4 (by omega) (by omega)
  unfold detI
  omega
theorem mt_sz {p : Pt} (hp : Box p) : fmax3 (sz (tzc p.1)) (sz (tzc p.2.1)) (sz (tzc p.2.2)) = sz (mt p) ∧ mt p ≤ 5 := by
  obtain ⟨h1, h2, h3, h4⟩ := hp
  have t5 := tz5 h4 h3
  refine ⟨mx_sz (spl h1).2.2 (spl h2).2.2 t5, ?_⟩
  unfold mt
  omega
theorem CallTo.maxP {c : Cx} {n : Nat} {p : Pt} (hp : Box p) : CallTo c n (.builtin "max") [.lst Option.none [.flt (sz (tzc p.1)), .flt (sz (tzc p.2.1)), .flt (sz (tzc p.2.2))]] (.flt (sz (mt p))) := by
  rw [← (mt_sz hp).1]
  exact CallTo.maxL
def textV (pts : List Pt) (T : List Tri) (A B : List D) : Vars := [(Str.ofString "behind", .lst Option.none B), (Str.ofString "ahead", .lst Option.none A), (Str.ofString "colours", .lst Option.none (pts.map szD)), (Str.ofString "points", .lst Option.none (pts.map ptD)), (Str.ofString "triangles", .lst Option.none (T.map Tri.d))]
def ptV (q : Pt) (a b : Int) (i : Nat) (al : Addr) (ns : List Int) (pts : List Pt) (T : List Tri) : Vars := (Str.ofString "x", .int q.1) :: (Str.ofString "y", .int q.2.1) :: (Str.ofString "z", .int q.2.2) :: (Str.ofString "side", .tup [.int a, .int b]) :: (Str.ofString "k", .int i) :: roundV al ns pts T
set_option maxHeartbeats 8000000 in
theorem call_law {c : Cx} (G : Good c) {n : Nat} {ns : List Int} (hns : ns.length ≤ 63) : CallTo0 c (n + 200) (.ref 246) [.scr ns] (.bool true) := by
  refine CallTo0.fn1 (Str.ofString "script") (FnOk.of (by rw [G.K]; rfl) rfl (by rw [G.K]; rfl) rfl rfl rfl rfl rfl rfl rfl rfl rfl) ?_ ?_ ?_ ?_
  · intro v; rfl
  · decide
  · rfl
  · intro L s FF0
    let env := envHere FF0
    have FF : FnEnv c env s := FF0
    show Ex c env s _ _ _ _
    have F := FF.toFrm
    have K := FF.toEnvOk
    refine @Ex.own c env s (n + 199) _ _ _ _ _ (pts0.map ptD) _ _ F (by walk_at "mN") (by exact @EvF.l4 _ _ _ _ _ _ _ _ _ _ _ _ _ Ev.pt3 Ev.pt3 Ev.pt3 Ev.pt3 rfl rfl rfl rfl) (by simp [pts0, ptD, D.flats, D.flat]) ?_ (sw_list _ _ _ _ _)
    intro al hal halX
    have GG := G.own (a := al)
    have FF' := FF.own (a := al)
    refine @Ex.assign (c.own al) env s (n + 199) _ _ _ _ _ (.lst Option.none (tris0.map Tri.d)) _ _ F.own (by walk_at "mN") (by exact @Ev.l2 _ _ _ _ _ _ _ _ _ Ev.pt3 Ev.pt3 rfl rfl) ?_ (sw_list _ _ _ _ _)
    refine Ex.for_ (c := c.own al) (ds := upFrom 0 4) F.own
      (fun ds ρ₁ => ∃ (i m : Nat) (pts : List Pt) (T : List Tri), i + m = 4 ∧ ds = upFrom i m ∧ pts.length = 4 + i ∧ T.length ≤ 2 ^ (1 + i) ∧ Nice pts T ∧ SubV ρ₁ (roundV al ns pts T))
      (Src.rng (k := 4) (Ev.cast (by walk_at "mE") (by rfl))) ⟨0, 4, pts0, tris0, rfl, rfl, rfl, by decide, nice0, ⟨rfl, rfl, rfl, trivial⟩⟩ ?_ ?_ (by decide)
    · rintro d ds ρ₁ ⟨i, m, pts, T, him, hd, hpl, hTl, N, hsub⟩
      cases m with
      | zero => cases hd
      | succ m =>
        cases hd
        have hi : i < 4 := by omega
        refine ⟨_, Tgt.name F.own (NmOk.cell FF' (by rfl) (by rfl)), ?_⟩
        refine Ex.less (ρ' := (Str.ofString "k", .int i) :: roundV al ns pts T) ?_ (SubV.look ⟨rfl, hsub.1, hsub.2.1, hsub.2.2.1, trivial⟩)
        -- drawn
        have hTl' : T.length ≤ 16 := Nat.le_trans hTl (Nat.le_trans (Nat.pow_le_pow_right (by decide) (show 1 + i ≤ 4 by omega)) (by decide))
        obtain ⟨c0, hc0⟩ : ∃ c0 : Int, ([.int 307462, .int 544772, .int 545090, .int 2265344] : List D)[((i : Int)).toNat]? = some (.int c0) := by
          rw [Int.toNat_natCast]
          match i, hi with
          | 0, _ => exact ⟨_, rfl⟩
          | 1, _ => exact ⟨_, rfl⟩
          | 2, _ => exact ⟨_, rfl⟩
          | 3, _ => exact ⟨_, rfl⟩
        generalize hdr : c0 + (pickI ns i 4).sum = drawn
        refine Ex.assign (d := .int drawn) F.own (by walk_at "mN") (Ev.cast (Ev.bin (Ev.itm (by walk_at "mE") (by walk_at "mE") Getter.lst (Itm.lst (by omega) (by omega) hc0)) (Ev.call K rfl (g_sum GG) (.inl ⟨_, rfl⟩) (Evs.cons (Ev.sliceStep (by walk_at "mE") (by walk_at "mE") Ev.int (by decide) (by omega)) Evs.nil) CallTo.sum) Bin.addI) (by rw [hdr])) ?_
        obtain ⟨X, hX, hX'⟩ := fmod_nat drawn 64 (by decide)
        obtain ⟨Y, hY, hY'⟩ := fmod_nat (drawn.fdiv 64) 64 (by decide)
        obtain ⟨Z, hZ, hZ'⟩ := fmod_nat (drawn.fdiv 4096) 32 (by decide)
        refine Ex.assignS (xs := [Str.ofString "x", Str.ofString "y", Str.ofString "z"]) (ds := [.int X, .int Y, .int (1 + Z : Nat)]) (Ev.cast (by walk_at "mE") (by
          have e1 : drawn.fmod 64 = (X : Int) := hX
          have e2 : (drawn.fdiv 64).fmod 64 = (Y : Int) := hY
          have e3 : 1 + (drawn.fdiv 4096).fmod 32 = ((1 + Z : Nat) : Int) := by
            have : (drawn.fdiv 4096).fmod 32 = (Z : Int) := hZ
            rw [this]; omega
          rw [e1, e2, e3])) (Names.cons F.own rfl (by decide) (Names.cons F.own rfl (by decide) (Names.cons F.own rfl (by decide) Names.nil))) ?_
        -- sides
        refine Ex.assignC (cl := _) (outs := sidesL T) F.own (by walk_at "mN") ⟨by rfl, by rfl, ?_, ?_, ?_⟩ (Src.lst (by walk_at "mE")) (CRun.two T Tri.d (fun _ => ([0, 1, 2] : List Int)) D.int sideD ?_ ?_ ?_ ?_ ?_ ?_ ?_ ?_ ?_ ?_ ?_ ?_) ?_
        · decide
        · decide
        · walk_at "mK"
        · intro L; rfl
        · decide
        · rfl
        · intro L; rfl
        · decide
        · intro d; rfl
        · show (sidesL T).length ≤ 1000; rw [sides_len]; omega
        · intro t _; exact t.plain
        · intro t _ j _; rfl
        · intro t _ j _; simp [sideD, D.plain, D.plains]
        · intro acc L s₀ F' t ht
          have K' := F'.toEnvOk
          have G' := GG.own (a := acc)
          exact Src.rng (k := 3) (Ev.cast (by walk_at "mE") (by rfl))
        · intro acc L s₀ F' t ht j hj
          have K' := F'.toEnvOk
          have G' := GG.own (a := acc)
          simp only [List.mem_cons, List.not_mem_nil, or_false] at hj
          have key : ∀ i : Int, 0 ≤ i → i < 3 → ([.int t.1, .int t.2.1, .int t.2.2] : List D)[i.toNat]? = some (.int (tg t i)) := by
            intro i h0 h1
            have : i = 0 ∨ i = 1 ∨ i = 2 := by omega
            rcases this with rfl | rfl | rfl <;> rfl
          have j0 : 0 ≤ j ∧ j < 3 := by omega
          have j1 : 0 ≤ (j + 1).fmod 3 ∧ (j + 1).fmod 3 < 3 := by
            rw [Int.fmod_eq_emod_of_nonneg _ (by decide)]
            omega
          exact Ev.tuple (Evs.cons (Ev.itm (d₀ := .tup [.int t.1, .int t.2.1, .int t.2.2]) (Ev.name K' rfl) (by walk_at "mE") Getter.tup (Itm.tup j0.1 (by omega) (key j j0.1 j0.2))) (Evs.cons (Ev.itm (d₀ := .tup [.int t.1, .int t.2.1, .int t.2.2]) (Ev.name K' rfl) (by walk_at "mE") Getter.tup (Itm.tup j1.1 (by omega) (key _ j1.1 j1.2))) Evs.nil))
        -- side
        have hSl := sides_len T
        have hTn := N.ne
        obtain ⟨J, hJ, hJ'⟩ := fmod_nat (drawn.fdiv 131072) (sidesL T).length (by omega)
        obtain ⟨t₀, ht₀, a, b, hside, ma, mb, hab⟩ := side_get hJ'
        have hab := hab (N.rng t₀ ht₀).1
        have ha := (N.rng t₀ ht₀).2 a ma
        have hb := (N.rng t₀ ht₀).2 b mb
        clear ma mb
        refine Ex.assign (d := .tup [.int a, .int b]) F.own (by walk_at "mN") (Ev.itm (by walk_at "mE") (Ev.cast (Ev.bin (by walk_at "mE") (Ev.call K rfl (g_len GG) (.inl ⟨_, rfl⟩) (Evs.cons (by walk_at "mE") Evs.nil) (CallTo.len (by show (sidesL T).length ≤ 100000; omega))) (Bin.modI (by show ((sidesL T).length : Int) ≠ 0; omega) (by show ((sidesL T).length : Int).natAbs < 1073741824; omega))) (congrArg D.int hJ)) Getter.lst (Itm.lst (by omega) (by omega) hside)) ?_
        refine Ex.less (ρ' := ptV (X, Y, 1 + Z) a b i al ns pts T) ?_ (SubV.look ⟨rfl, rfl, rfl, rfl, rfl, rfl, rfl, rfl, trivial⟩)
        generalize hq : moved pts T a b (X, Y, 1 + Z) = q
        have hqb : Box (X, Y, 1 + Z) := ⟨hX', hY', by show 1 ≤ 1 + Z; omega, by show 1 + Z < 64; omega⟩
        refine Ex.ifJ (c := c.own al) (ptV q a b i al ns pts T) (b := decide ((T.filter fun t => has t a b).length = 1)) (Tru.cast (Tru.cmp (Ev.call K rfl (g_len GG) (.inl ⟨_, rfl⟩) (Evs.cons (Ev.comp (cl := _) K F.apart ⟨by rfl, by rfl, ?_, ?_, ?_⟩ (Src.lst (by walk_at "mE")) (CRun.cond T Tri.d Tri.d (fun t => has t a b) ?_ ?_ ?_ ?_ ?_ ?_ ?_ ?_)) Evs.nil) (CallTo.len ?_)) Ev.int Cmp.eqI) ?_) (fun h => ?_) (fun h => ?_) ?_
        · decide
        · decide
        · walk_at "mK"
        · intro L; rfl
        · decide
        · rfl
        · omega
        · intro t _; exact t.plain
        · intro t _; exact t.plain
        · intro acc L s₀ F' t ht
          have K' := F'.toEnvOk
          have G' := GG.own (a := acc)
          exact Tru.boolOp (Trus.and_cons (Tru.cmp (Ev.itm (d₀ := .tup [.int a, .int b]) (Ev.name K' rfl) Ev.int Getter.tup (Itm.tup (by decide) (by decide) rfl)) (Ev.name K' rfl) (Cmp.inT (ns := [t.1, t.2.1, t.2.2]))) fun _ => Trus.and_cons (Tru.cmp (Ev.itm (d₀ := .tup [.int a, .int b]) (Ev.name K' rfl) Ev.int Getter.tup (Itm.tup (by decide) (by decide) rfl)) (Ev.name K' rfl) (Cmp.inT (ns := [t.1, t.2.1, t.2.2]))) fun _ => Trus.and_nil)
        · intro acc L s₀ F' t ht _
          have K' := F'.toEnvOk
          exact Ev.name K' rfl
        · rw [List.length_map]
          exact Nat.le_trans (List.length_filter_le _ _) (by omega)
        · rw [List.length_map]
          rw [Bool.eq_iff_iff]
          simp only [beq_iff_eq, decide_eq_true_eq]
          omega
        · have hc : (T.filter fun t => has t a b).length = 1 := of_decide_eq_true h
          unfold moved at hq
          rw [if_pos hc] at hq
          refine Ex.assignT (Ev.itm (by walk_at "mE") (Ev.itm (by walk_at "mE") Ev.int Getter.tup (Itm.tup (by decide) (by decide) rfl)) Getter.lst (Itm.lst ha.1 (by omega) (pts_get ha))) (Tgt.tuple (Tgts.cons F.own (by walk_at "mN") (Tgts.cons F.own (by walk_at "mN") (Tgts.cons F.own (by walk_at "mN") Tgts.nil)))) ?_
          refine Ex.assignT (Ev.itm (by walk_at "mE") (Ev.itm (by walk_at "mE") Ev.int Getter.tup (Itm.tup (by decide) (by decide) rfl)) Getter.lst (Itm.lst hb.1 (by omega) (pts_get hb))) (Tgt.tuple (Tgts.cons F.own (by walk_at "mN") (Tgts.cons F.own (by walk_at "mN") (Tgts.cons F.own (by walk_at "mN") Tgts.nil)))) ?_
          generalize pnt pts a = p1 at hq ⊢
          generalize pnt pts b = p2 at hq ⊢
          unfold onRim at hq
          refine Ex.ifJ (c := c.own al) (ptV q a b i al ns pts T) (b := decide (p1.2.1 = p2.2.1 ∧ p2.2.1 = 0)) (Tru.cast (Tru.chain (by walk_at "mE") (by walk_at "mE") Ev.int Cmp.eqI Cmp.eqI) ?_) (fun h => ?_) (fun h => ?_) (Ex.nil fun s'' S => ⟨rfl, S⟩)
          · rw [Bool.eq_iff_iff]
            simp only [Bool.and_eq_true, beq_iff_eq, decide_eq_true_eq]
            omega
          · rw [if_pos (of_decide_eq_true h)] at hq
            subst hq
            refine Ex.assign F.own (by walk_at "mN") (by walk_at "mE") (Ex.nil fun s'' S => ⟨rfl, S.less (SubV.look ⟨rfl, rfl, rfl, rfl, rfl, rfl, rfl, rfl, trivial⟩)⟩)
          · rw [if_neg (of_decide_eq_false h)] at hq
            refine Ex.ifJ (c := c.own al) (ptV q a b i al ns pts T) (b := decide (p1.1 = p1.2.2 ∧ p2.1 = p2.2.2)) (Tru.cast (by walk_at "mT") ?_) (fun h => ?_) (fun h => ?_) (Ex.nil fun s'' S => ⟨rfl, S⟩)
            · rw [Bool.eq_iff_iff]
              simp only [Bool.and_eq_true, beq_iff_eq, decide_eq_true_eq, Bool.and_true]
              omega
            · rw [if_pos (of_decide_eq_true h)] at hq
              subst hq
              refine Ex.assign F.own (by walk_at "mN") (by walk_at "mE") (Ex.nil fun s'' S => ⟨rfl, S.less (SubV.look ⟨rfl, rfl, rfl, rfl, rfl, rfl, rfl, rfl, trivial⟩)⟩)
            · rw [if_neg (of_decide_eq_false h)] at hq
              refine Ex.ifJ (c := c.own al) (ptV q a b i al ns pts T) (b := decide (p1.2.1 = p1.2.2 ∧ p2.2.1 = p2.2.2)) (Tru.cast (by walk_at "mT") ?_) (fun h => ?_) (fun h => ?_) (Ex.nil fun s'' S => ⟨rfl, S⟩)
              · rw [Bool.eq_iff_iff]
                simp only [Bool.and_eq_true, beq_iff_eq, decide_eq_true_eq, Bool.and_true]
                omega
              · rw [if_pos (of_decide_eq_true h)] at hq
                subst hq
                refine Ex.assign F.own (by walk_at "mN") (by walk_at "mE") (Ex.nil fun s'' S => ⟨rfl, S.less (SubV.look ⟨rfl, rfl, rfl, rfl, rfl, rfl, rfl, rfl, trivial⟩)⟩)
              · rw [if_neg (of_decide_eq_false h)] at hq
                subst hq
                refine Ex.assign F.own (by walk_at "mN") (by walk_at "mE") (Ex.nil fun s'' S => ⟨rfl, S.less (SubV.look ⟨rfl, rfl, rfl, rfl, rfl, rfl, rfl, rfl, trivial⟩)⟩)
        · have hc : ¬ (T.filter fun t => has t a b).length = 1 := of_decide_eq_false h
          unfold moved at hq
          rw [if_neg hc] at hq
          subst hq
          exact Ex.nil fun s'' S => ⟨rfl, S⟩
        -- the point is added, the triangles are parted
        have hqB : Box q := by
          rw [← hq]
          unfold moved
          split
          · exact box_moved hqb
          · exact hqb
        refine Ex.append (c := c) (d := ptD q) (ρ' := [(Str.ofString "triangles", .lst Option.none (T.map Tri.d)), (Str.ofString "side", .tup [.int a, .int b]), (Str.ofString "k", .int i), (Str.ofString "script", .scr ns)]) F hal rfl (by exact Ev.tuple (by walk_at "mEs")) (ptD_plain q) (plains_map fun p _ => ptD_plain p) (by rw [List.length_map]; omega) (SubV.look ⟨rfl, rfl, rfl, rfl, trivial⟩)
          (VOff.cons (VOff.cons (VOff.cons (VOff.cons (fun _ _ h => nomatch h) (by simp [D.off])) (by simp [D.off])) (by simp [D.off, D.offs])) (D.plain_off al _ (by rw [D.plain]; exact plains_map fun t _ => t.plain))) ?_
        have e7 : (T.flatMap fun t => (parted t a b (pts.length : Int)).map fun u : Tri => u.d) = (splitAll T a b pts.length).map Tri.d := by
          unfold splitAll
          rw [List.map_flatMap]
        refine Ex.assignC (c := c.own al) (cl := _) (outs := T.flatMap fun t => (parted t a b (pts.length : Int)).map fun u : Tri => u.d) F.own (by walk_at "mN") ⟨by rfl, by rfl, ?_, ?_, ?_⟩ (Src.lst (by walk_at "mE")) (CRun.two T Tri.d (fun t => parted t a b (pts.length : Int)) Tri.d (fun _ u => u.d) ?_ ?_ ?_ ?_ ?_ ?_ ?_ ?_ ?_ ?_ ?_ ?_) ?_
        · decide
        · decide
        · walk_at "mK"
        · intro L; rfl
        · decide
        · rfl
        · intro L; rfl
        · decide
        · intro d; rfl
        · rw [e7, List.length_map]
          have := sp_len (T := T) (a := a) (b := b) (p := (pts.length : Int))
          omega
        · intro t _; exact t.plain
        · intro t _ u _; exact u.plain
        · intro t _ u _; exact u.plain
        · intro acc L s₀ F' t ht
          have K' := F'.toEnvOk
          have G' := GG.own (a := acc)
          obtain ⟨_, gp, rfl⟩ := g_parted G'
          exact Src.lst (Ev.call K' rfl gp (callee_of G' rfl) (Evs.cons (by walk_at "mE") (Evs.cons (by walk_at "mE") (Evs.cons (Ev.cast (by walk_at "mE") (congrArg D.int (by omega))) Evs.nil))) (call_parted G' (n := n + 198) (tri := t) (u := a) (v := b) (p := (pts.length : Int))))
        · intro acc L s₀ F' t ht u hu
          have K' := F'.toEnvOk
          exact Ev.name K' rfl
        rw [e7]
        have N' : Nice (pts ++ [q]) (splitAll T a b pts.length) := hq ▸ N.step hab ha hb hqb
        have hlen := sp_len (T := T) (a := a) (b := b) (p := (pts.length : Int))
        refine Ex.nil fun s'' S => ⟨_, ⟨i + 1, m, pts ++ [q], splitAll T a b pts.length, by omega, by rfl, by simp; omega, ?_, N', ⟨?_, rfl, rfl, trivial⟩⟩, S⟩
        · have : 2 ^ (1 + (i + 1)) = 2 * 2 ^ (1 + i) := by rw [← Nat.add_assoc, Nat.pow_succ, Nat.mul_comm]
          omega
        · show some (D.lst (some al) _) = _
          rw [List.map_append]; rfl
    · rintro ρ₁ ⟨i, m, pts, T, him, hd, hpl, hTl, N, hsub⟩
      cases m with
      | succ m => cases hd
      | zero =>
        have hi : i = 4 := by omega
        subst hi
        have hT32 : T.length ≤ 32 := hTl
        have hp8 : pts.length = 8 := hpl
        refine Ex.less (ρ' := roundV al ns pts T) ?_ (SubV.look ⟨hsub.1, hsub.2.1, hsub.2.2.1, trivial⟩)
        refine Ex.disown (x := Str.ofString "points") (ρ' := [(Str.ofString "triangles", .lst Option.none (T.map Tri.d))]) halX rfl (SubV.look ⟨rfl, trivial⟩) ?_
        have tz6 : ∀ p ∈ pts, tzc p.1 ≤ 6 ∧ tzc p.2.1 ≤ 6 ∧ tzc p.2.2 ≤ 5 := fun p hp => by
          obtain ⟨b1, b2, b3, b4⟩ := N.box p hp
          exact ⟨(spl b1).2.2, (spl b2).2.2, tz5 b4 b3⟩
        -- colours
        refine Ex.assignC (cl := _) (outs := pts.map szD) F (by walk_at "mN") ⟨by rfl, by rfl, ?_, ?_, ?_⟩ (Src.lst (by walk_at "mE")) (CRun.one pts ptD szD ?_ ?_ ?_ ?_ ?_ ?_ ?_) ?_
        · decide
        · decide
        · walk_at "mK"
        · intro L; rfl
        · decide
        · rfl
        · omega
        · intro p _; exact ptD_plain p
        · intro p _; simp [szD, D.plain, D.plains]
        · intro acc L s₀ F' p hp
          have K' := F'.toEnvOk
          have G' := G.own (a := acc)
          obtain ⟨_, gs, rfl⟩ := g_sizes G'
          obtain ⟨b1, b2, b3, b4⟩ := N.box p hp
          exact Ev.call K' rfl gs (callee_of G' rfl) (Evs.cons (Ev.name K' rfl) Evs.nil) (call_sizes G' (n := n + 119) b1 b2 b4)
        -- letters
        refine Ex.assign F (by walk_at "mN") (Ev.comp (cl := _) (outs := pts.map fun p => D.str (ltr (colP p))) K F.apart ⟨by rfl, by rfl, ?_, ?_, ?_⟩ (Src.lst (by walk_at "mE")) (CRun.one pts szD (fun p => D.str (ltr (colP p))) ?_ ?_ ?_ ?_ ?_ ?_ ?_)) ?_
        · decide
        · decide
        · walk_at "mK"
        · intro L; rfl
        · decide
        · rfl
        · omega
        · intro p _; simp [szD, D.plain, D.plains]
        · intro p _; rfl
        · intro acc L s₀ F' p hp
          have K' := F'.toEnvOk
          have G' := G.own (a := acc)
          obtain ⟨_, gl, rfl⟩ := g_letter G'
          obtain ⟨t1, t2, t3⟩ := tz6 p hp
          exact Ev.call K' rfl gl (callee_of G' rfl) (Evs.cons (Ev.name K' rfl) Evs.nil) (call_letter G' (n := n + 178) (letter_all t1 t2 t3))
        rw [show (pts.map fun p => D.str (ltr (colP p))) = (letL pts).map D.str by unfold letL; rw [List.map_map]; rfl]
        -- if '' in letters
        refine Ex.if_ (b := false) (Tru.cast (Tru.cmp Ev.str (by walk_at "mE") (Cmp.inL (ns := letL pts))) (let_none pts)) (fun h => by cases h) (fun _ => ?_)
        refine Ex.nil fun s' S => ⟨_, S, ?_⟩
        -- names
        refine Ex.assign F (by walk_at "mN") (Ev.comp (cl := _) (outs := T.map fun t => D.str (nmT (colI pts) t)) K F.apart ⟨by rfl, by rfl, ?_, ?_, ?_⟩ (Src.lst (by walk_at "mE")) (CRun.one T Tri.d (fun t => D.str (nmT (colI pts) t)) ?_ ?_ ?_ ?_ ?_ ?_ ?_)) ?_
        · decide
        · decide
        · walk_at "mK"
        · intro L; rfl
        · decide
        · rfl
        · omega
        · intro t _; exact t.plain
        · intro t _; rfl
        · intro acc L s₀ F' t ht
          have K' := F'.toEnvOk
          have hr := (N.rng t ht).2
          refine Ev.meth m_join KindIs.str (Ev.cast Ev.str (d' := .str ⟨#[]⟩) rfl) (Evs.cons (Ev.comp (cl := _) (outs := ([t.1, t.2.1, t.2.2] : List Int).map fun j => D.str (ltr (colI pts j))) K' F'.apart ⟨by rfl, by rfl, ?_, ?_, ?_⟩ (Src.tup (Ev.name K' rfl)) (CRun.one [t.1, t.2.1, t.2.2] D.int (fun j => D.str (ltr (colI pts j))) ?_ ?_ ?_ ?_ ?_ ?_ ?_)) Evs.nil) (CallTo.join (ss := [ltr (colI pts t.1), ltr (colI pts t.2.1), ltr (colI pts t.2.2)]) ?_)
          · decide
          · decide
          · walk_at "mK"
          · intro L; rfl
          · decide
          · rfl
          · show 3 ≤ 1000; decide
          · intro j _; rfl
          · intro j _; rfl
          · intro acc' L' s₁ F'' j hj
            have K'' := F''.toEnvOk
            have hj' : 0 ≤ j ∧ j < pts.length := by
              simp only [List.mem_cons, List.not_mem_nil, or_false] at hj
              rcases hj with rfl | rfl | rfl
              · exact hr _ (.inl rfl)
              · exact hr _ (.inr (.inl rfl))
              · exact hr _ (.inr (.inr rfl))
            exact Ev.itm (d₀ := .lst Option.none ((letL pts).map D.str)) (Ev.name K'' rfl) (Ev.name K'' rfl) Getter.lst (Itm.lst hj'.1 (by omega) (let_get hj'))
          · show 1 + (1 + (1 + 0)) + 3 ≤ 1048576; decide
        -- table
        have hcol : ∀ i, colI pts i < 3 := fun i => colP_lt _
        have htab := tab_clean hcol T c.w.params hT32
        have hcK : ∀ x, cleanP c.w.params x = clean c.K x := fun x => by unfold cleanP; rw [G.K]
        have htl := tab_len (colI pts) T
        have hnl : (T.map fun t => D.str (nmT (colI pts) t)).length = T.length := List.length_map ..
        refine Ex.assign (d := .hdr (tabOf (colI pts) T)) F (by walk_at "mN") (Ev.callK K rfl (g_hdr G) (k_k218 G) (Evs.cons (Ev.cast (Ev.bin (Ev.comp (cl := _) (outs := (List.range T.length).map fun k : Nat => pairD (nmAt k (nmT (colI pts) (triAt T k)), numS k)) K F.apart ⟨by rfl, by rfl, ?_, ?_, ?_⟩
          (Src.cast (Src.rng (k := T.length) (Ev.call K rfl (g_range G) (.inr (.inl ⟨_, rfl⟩)) (Evs.cons (Ev.cast (Ev.call K rfl (g_len G) (.inl ⟨_, rfl⟩) (Evs.cons (by walk_at "mE") Evs.nil) (CallTo.len (by rw [hnl]; omega))) (by rw [hnl])) Evs.nil) CallTo.range) (by omega)) (upFrom_zero T.length))
          (CRun.one (List.range T.length) (fun k : Nat => D.int k) (fun k : Nat => pairD (nmAt k (nmT (colI pts) (triAt T k)), numS k)) ?_ ?_ ?_ ?_ ?_ ?_ ?_)) (by exact @Ev.l2 _ _ _ _ _ _ _ _ _ Ev.st2 Ev.st2 rfl rfl) (Bin.addL ?_)) (congrArg (D.lst Option.none) (tab_map (colI pts) T))) Evs.nil) (call_hdr G (n := n + 189) (fun r hr => ⟨by rw [← hcK]; exact (htab r hr).1, by rw [← hcK]; exact (htab r hr).2.1⟩) (by omega))) ?_
        · decide
        · decide
        · walk_at "mK"
        · intro L; rfl
        · decide
        · rfl
        · rw [List.length_range]; omega
        · intro k _; rfl
        · intro k _; simp [pairD, D.plain, D.plains]
        · intro acc L s₀ F' k hk
          have K' := F'.toEnvOk
          have G' := G.own (a := acc)
          have hk' : k < T.length := List.mem_range.mp hk
          have hup : Builtin.Str.tooLong (upperS (nmT (colI pts) (triAt T k))).cps.size = false := by
            have h1 := (nm_get c.w.params (hcol (triAt T k).1) (hcol (triAt T k).2.1) (hcol (triAt T k).2.2)).1
            simp only [nmOk, Bool.and_eq_true, Bool.not_eq_true'] at h1
            exact h1.2
          refine Ev.tuple (Evs.cons (Ev.ifExp (b := ((k : Int).fmod 2 != 0)) (Tru.value (Ev.bin (Ev.name K' rfl) Ev.int (Bin.modI (by decide) (by decide))) Truthy.int) (fun h => ?_) (fun h => ?_)) (Evs.cons (Ev.call K' rfl (g_str G') (.inr (.inl ⟨_, rfl⟩)) (Evs.cons (Ev.name K' rfl) Evs.nil) (CallTo.str (by omega))) Evs.nil))
          · unfold nmAt
            rw [if_pos h]
            exact Ev.meth m_upper KindIs.str (Ev.itm (d₀ := .lst Option.none (T.map fun t => D.str (nmT (colI pts) t))) (Ev.name K' rfl) (Ev.name K' rfl) Getter.lst (Itm.lst (by omega) (by omega) (names_get hk'))) Evs.nil (CallTo.upper hup)
          · unfold nmAt
            rw [if_neg (by rw [h]; exact Bool.false_ne_true)]
            exact Ev.itm (d₀ := .lst Option.none (T.map fun t => D.str (nmT (colI pts) t))) (Ev.name K' rfl) (Ev.name K' rfl) Getter.lst (Itm.lst (by omega) (by omega) (names_get hk'))
        · rw [List.length_map, List.length_range]
          show T.length + 2 ≤ 1000
          omega
        -- ahead, behind
        have hall : ∀ (acc : Addr) (q : Str), q ∈ asked → CallTo (c.own acc) (n + 199) (.ref 157) [.hdr (tabOf (colI pts) T), .str q] (.lst Option.none ((gotAll (tabOf (colI pts) T) q).map D.str)) := fun acc q hq => by
          obtain ⟨o1, o2⟩ := ask_ok c.w.params q hq
          exact call_all (G.own (a := acc)) (n := n + 189) o1 (by show clean c.K (lowerS q) = true; rw [← hcK]; exact o2) (fun r hr => (htab r hr).2.2) (by omega)
        have hal := ahead_le (colI pts) T
        refine Ex.assignC (cl := _) (outs := askA.flatMap fun q => (gotAll (tabOf (colI pts) T) q).map fun x => D.str x) F (by walk_at "mN") ⟨by rfl, by rfl, ?_, ?_, ?_⟩ (Src.cast (Src.lst (by exact @Ev.l3 _ _ _ _ _ _ _ _ _ _ _ Ev.str Ev.str Ev.str rfl rfl rfl)) (ds' := askA.map D.str) rfl) (CRun.two askA D.str (fun q => gotAll (tabOf (colI pts) T) q) D.str (fun _ x => D.str x) ?_ ?_ ?_ ?_ ?_ ?_ ?_ ?_ ?_ ?_ ?_ ?_) ?_
        · decide
        · decide
        · walk_at "mK"
        · intro L; rfl
        · decide
        · rfl
        · intro L; rfl
        · decide
        · intro d; rfl
        · rw [ahead_eq hcol T c.w.params, List.length_map]; omega
        · intro q _; rfl
        · intro q _ x _; rfl
        · intro q _ x _; rfl
        · intro acc L s₀ F' q hq
          have K' := F'.toEnvOk
          have G' := G.own (a := acc)
          exact Src.lst (Ev.methJ G' (k_all G') (k_t157 G') (k_k157 G') (by decide) (Ev.name K' rfl) (Evs.cons (Ev.name K' rfl) Evs.nil) (hall acc q (askA_mem q hq)))
        · intro acc L s₀ F' q hq x hx
          have K' := F'.toEnvOk
          exact Ev.name K' rfl
        rw [ahead_eq hcol T c.w.params]
        refine Ex.assignC (cl := _) (outs := askB.flatMap fun q => (gotAll (tabOf (colI pts) T) q).map fun x => D.str x) F (by walk_at "mN") ⟨by rfl, by rfl, ?_, ?_, ?_⟩ (Src.cast (Src.lst (by exact @Ev.l3 _ _ _ _ _ _ _ _ _ _ _ Ev.str Ev.str Ev.str rfl rfl rfl)) (ds' := askB.map D.str) rfl) (CRun.two askB D.str (fun q => gotAll (tabOf (colI pts) T) q) D.str (fun _ x => D.str x) ?_ ?_ ?_ ?_ ?_ ?_ ?_ ?_ ?_ ?_ ?_ ?_) ?_
        · decide
        · decide
        · walk_at "mK"
        · intro L; rfl
        · decide
        · rfl
        · intro L; rfl
        · decide
        · intro d; rfl
        · rw [behind_eq hcol T c.w.params, List.length_map]; omega
        · intro q _; rfl
        · intro q _ x _; rfl
        · intro q _ x _; rfl
        · intro acc L s₀ F' q hq
          have K' := F'.toEnvOk
          have G' := G.own (a := acc)
          exact Src.lst (Ev.methJ G' (k_all G') (k_t157 G') (k_k157 G') (by decide) (Ev.name K' rfl) (Evs.cons (Ev.name K' rfl) Evs.nil) (hall acc q (askB_mem q hq)))
        · intro acc L s₀ F' q hq x hx
          have K' := F'.toEnvOk
          exact Ev.name K' rfl
        rw [behind_eq hcol T c.w.params]
        generalize hA : (aheadOf (colI pts) T).map (fun k : Nat => D.str (numS k)) = A
        generalize hB : (behindOf (colI pts) T).map (fun k : Nat => D.str (numS k)) = B
        have hAl : A.length = (aheadOf (colI pts) T).length := by rw [← hA, List.length_map]
        have hBl : B.length = (behindOf (colI pts) T).length := by rw [← hB, List.length_map]
        refine Ex.for_ (ds := A ++ B) F
          (fun ds ρ₁ => ∃ rest : List Nat, ds = rest.map (fun k : Nat => D.str (numS k)) ∧ (∀ k ∈ rest, k < T.length ∧ sgn (colI pts (triAt T k).1) (colI pts (triAt T k).2.1) (colI pts (triAt T k).2.2) ≠ 0) ∧ SubV ρ₁ (textV pts T A B))
          (Src.lst (Ev.bin (by walk_at "mE") (by walk_at "mE") (Bin.addL (by omega)))) ⟨aheadOf (colI pts) T ++ behindOf (colI pts) T, by rw [List.map_append, hA, hB], fun k hk => both_mem hk, ⟨rfl, rfl, rfl, rfl, rfl, trivial⟩⟩ ?_ ?_ ?_
        · rintro d ds ρ₁ ⟨rest, hd, hr, hsub⟩
          cases rest with
          | nil => cases hd
          | cons k rest =>
            cases hd
            refine ⟨_, Tgt.name F NmOk.loc, ?_⟩
            refine Ex.less (ρ' := (Str.ofString "text", .str (numS k)) :: textV pts T A B) ?_ (SubV.look ⟨rfl, hsub.1, hsub.2.1, hsub.2.2.1, hsub.2.2.2.1, hsub.2.2.2.2.1, trivial⟩)
            obtain ⟨hk, hs⟩ := hr k (by simp)
            have ht := N.rng _ (tri_mem hk)
            have r1 := ht.2 _ (.inl rfl)
            have r2 := ht.2 _ (.inr (.inl rfl))
            have r3 := ht.2 _ (.inr (.inr rfl))
            have htri := tris_get hk
            generalize (triAt T k).1 = i1 at hs r1 htri
            generalize (triAt T k).2.1 = i2 at hs r2 htri
            generalize (triAt T k).2.2 = i3 at hs r3 htri
            have g1 := pts_get r1
            have g2 := pts_get r2
            have g3 := pts_get r3
            have c1 := cols_get r1
            have c2 := cols_get r2
            have c3 := cols_get r3
            have B1 := pnt_box N.box i1
            have B2 := pnt_box N.box i2
            have B3 := pnt_box N.box i3
            unfold colI at hs
            generalize pnt pts i1 = P1 at hs g1 c1 B1
            generalize pnt pts i2 = P2 at hs g2 c2 B2
            generalize pnt pts i3 = P3 at hs g3 c3 B3
            have hdet := det_rest B1 B2 B3 hs
            have hsm := det_small B1 B2 B3
            have hdm := Int.mul_ediv_add_emod (detI P1 P2 P3) ((2 * 2 ^ (mt P1 + mt P2 + mt P3) : Nat) : Int)
            have m1 := (mt_sz B1).2
            have m2 := (mt_sz B2).2
            have m3 := (mt_sz B3).2
            obtain ⟨w1, w2, w3⟩ := tw_sz m1 m2 m3
            have hW1 : 2 ^ (mt P1 + mt P2 + mt P3) ≤ 2 ^ 15 := Nat.pow_le_pow_right (by decide) (by omega)
            have hW0 : 0 < 2 ^ (mt P1 + mt P2 + mt P3) := Nat.pow_pos (by decide)
            have x1 : ((P1.1 : Nat) : Int).natAbs < 2 ^ 64 := by have := B1.1; omega
            have x2 : ((P2.1 : Nat) : Int).natAbs < 2 ^ 64 := by have := B2.1; omega
            have x3 : ((P3.1 : Nat) : Int).natAbs < 2 ^ 64 := by have := B3.1; omega
            have y1 : ((P1.2.1 : Nat) : Int).natAbs < 2 ^ 64 := by have := B1.2.1; omega
            have y2 : ((P2.2.1 : Nat) : Int).natAbs < 2 ^ 64 := by have := B2.2.1; omega
            have y3 : ((P3.2.1 : Nat) : Int).natAbs < 2 ^ 64 := by have := B3.2.1; omega
            have z1 : ((P1.2.2 : Nat) : Int).natAbs < 2 ^ 64 := by have := B1.2.2.2; omega
            refine Ex.assignT (Ev.itm (by walk_at "mE") (Ev.call K rfl (g_int G) (.inr (.inl ⟨_, rfl⟩)) (Evs.cons (by walk_at "mE") Evs.nil) (CallTo.int (a := (k : Int)) (by omega) (by omega))) Getter.lst (Itm.lst (by omega) (by omega) htri)) (Tgt.tuple (Tgts.cons F (by walk_at "mN") (Tgts.cons F (by walk_at "mN") (Tgts.cons F (by walk_at "mN") Tgts.nil)))) ?_
            refine Ex.assignT (Ev.itm (by walk_at "mE") (by walk_at "mE") Getter.lst (Itm.lst r1.1 (by omega) g1)) (Tgt.tuple (Tgts.cons F (by walk_at "mN") (Tgts.cons F (by walk_at "mN") (Tgts.cons F (by walk_at "mN") Tgts.nil)))) ?_
            refine Ex.assignT (Ev.itm (by walk_at "mE") (by walk_at "mE") Getter.lst (Itm.lst r2.1 (by omega) g2)) (Tgt.tuple (Tgts.cons F (by walk_at "mN") (Tgts.cons F (by walk_at "mN") (Tgts.cons F (by walk_at "mN") Tgts.nil)))) ?_
            refine Ex.assignT (Ev.itm (by walk_at "mE") (by walk_at "mE") Getter.lst (Itm.lst r3.1 (by omega) g3)) (Tgt.tuple (Tgts.cons F (by walk_at "mN") (Tgts.cons F (by walk_at "mN") (Tgts.cons F (by walk_at "mN") Tgts.nil)))) ?_
            refine Ex.assign (d := .int (detI P1 P2 P3)) F (by walk_at "mN") (Ev.cast (by walk_at "mE") (by rfl)) ?_
            refine Ex.assign (d := .int ((2 ^ (mt P1 + mt P2 + mt P3) : Nat) : Int)) F (by walk_at "mN") (Ev.cast (Ev.call K rfl (g_round G) (.inl ⟨_, rfl⟩) (Evs.cons (Ev.bin Ev.int (Ev.bin (Ev.bin
              (Ev.call K rfl (g_max G) (.inl ⟨_, rfl⟩) (Evs.cons (Ev.itm (by walk_at "mE") (by walk_at "mE") Getter.lst (Itm.lst r1.1 (by omega) c1)) Evs.nil) (CallTo.maxP B1))
              (Ev.call K rfl (g_max G) (.inl ⟨_, rfl⟩) (Evs.cons (Ev.itm (by walk_at "mE") (by walk_at "mE") Getter.lst (Itm.lst r2.1 (by omega) c2)) Evs.nil) (CallTo.maxP B2)) Bin.mulF)
              (Ev.call K rfl (g_max G) (.inl ⟨_, rfl⟩) (Evs.cons (Ev.itm (by walk_at "mE") (by walk_at "mE") Getter.lst (Itm.lst r3.1 (by omega) c3)) Evs.nil) (CallTo.maxP B3)) Bin.mulF) (Bin.divIF (by decide +kernel) w1)) Evs.nil) (CallTo.round w2)) (congrArg D.int w3)) ?_
            generalize 2 ^ (mt P1 + mt P2 + mt P3) = W at hdet hdm hW1 hW0 ⊢
            generalize detI P1 P2 P3 = dt at hdet hdm hsm ⊢
            refine Ex.assignT (Ev.call K rfl (g_idm G) (callee_of G rfl) (Evs.cons (by walk_at "mE") (Evs.cons (Ev.cast (by walk_at "mE") (congrArg D.int (show (2 : Int) * (W : Int) = ((2 * W : Nat) : Int) by omega))) Evs.nil)) (call_idm G (n := n + 107) (a := dt) (b := 2 * W) hsm (by omega) (by omega))) (Tgt.tuple (Tgts.cons F (by walk_at "mN") (Tgts.cons F (by walk_at "mN") Tgts.nil))) ?_
            rw [hdet] at hdm ⊢
            generalize dt / ((2 * W : Nat) : Int) = qt at hdm ⊢
            have hfin : qt * 2 * (W : Int) + W = dt := by
              rw [← hdm, Int.mul_assoc, Int.mul_comm]
              congr 2
            refine Ex.if_ (b := false) (Tru.cast (Tru.boolOp (Trus.or_cons (Tru.cmp (by walk_at "mE") (by walk_at "mE") Cmp.neI) fun _ => Trus.or_cons (Tru.cmp (by walk_at "mE") (by walk_at "mE") Cmp.neI) fun _ => Trus.or_nil)) ?_) (fun h => by cases h) (fun _ => ?_)
            · rw [hfin]; simp
            · exact Ex.nil fun s' S => ⟨_, S, Ex.nil fun s'' S' => ⟨_, ⟨rest, rfl, fun j hj => hr j (by simp [hj]), ⟨rfl, rfl, rfl, rfl, rfl, trivial⟩⟩, S'⟩⟩
        · rintro ρ₁ ⟨rest, hd, hr, hsub⟩
          refine Ex.less (ρ' := textV pts T A B) ?_ (SubV.look ⟨hsub.1, hsub.2.1, hsub.2.2.1, hsub.2.2.2.1, hsub.2.2.2.2.1, trivial⟩)
          have hcw := count_wts hcol T
          rw [N.one] at hcw
          refine Ex.back (Ev.cast (Ev.cmp (Ev.bin (Ev.call K rfl (g_len G) (.inl ⟨_, rfl⟩) (Evs.cons (by walk_at "mE") Evs.nil) (CallTo.len (by omega))) (Ev.call K rfl (g_len G) (.inl ⟨_, rfl⟩) (Evs.cons (by walk_at "mE") Evs.nil) (CallTo.len (by omega))) Bin.subI) Ev.int Cmp.eqI) ?_)
          have e : ((A.length : Int) - B.length == 1) = true := by rw [hAl, hBl, hcw]; rfl
          rw [e]
        · rw [← hA, ← hB, plains_append, plains_map (fun k _ => rfl), plains_map (fun k _ => rfl)]; rfl

/-! ## The join -/
theorem old_of {h₁ h' : Heap} {tabs : List (Addr × Addr)} (hT : TabsAt tabs h₁) (keep : ∀ b o, (ghostOf h₁ tabs).get? b = some o → h'.get? b = some o) (grown : ∀ q ∈ tabs, ∃ ps, h'.get? q.2 = some (tabObj ps)) : OldK h₁ h' := by
  refine ⟨fun b o e => ?_, fun b o e => ?_⟩
  · by_cases hb : b ∈ tabs.map (·.2)
    · obtain ⟨q, hq, rfl⟩ := List.mem_map.mp hb
      have e2 := (hT q hq).2
      rw [e] at e2
      cases e2
      obtain ⟨ps, hP⟩ := grown q hq
      exact .inr (.inl ⟨((hT q hq).1.tab (hT q hq).2).isCodeTable, rfl, #[], ps, rfl, by rw [Array.empty_append]; exact hP⟩)
    · exact .inl (keep b o (ghost_ne e hb))
  · by_cases hb : b ∈ tabs.map (·.2)
    · obtain ⟨q, hq, rfl⟩ := List.mem_map.mp hb
      obtain ⟨ps, hP⟩ := grown q hq
      exact ⟨_, hP⟩
    · exact ⟨o, keep b o (ghost_ne e hb)⟩
theorem k_booked (p : Params) : nsIn (Mine.hd.heap_39 p) cStatics sharingNotToldKey = some none := by with_unfolding_all rfl
theorem k_notabs (p : Params) : noTabs (Mine.hd.heap_39 p) = true := by kernel_rfl
theorem k_law (p : Params) : nsIn (Mine.hd.heap_39 p) mainGlobals "law" = some (some (.ref 246)) := by with_unfolding_all rfl

theorem law_run {prog : Program} {w : World} {s₁ : Shared} {mg mb : Str → Option Value} {p : Program} {loose : List Str} {mean : ExcName → Option Value} (KX : (Mine.hd.heap_39 w.params).In s₁.heap) (T : Top p loose mean mg mb s₁.heap) (hT9 : TabsAt [(72, 68), (65, 61)] s₁.heap)
    {fa l : Addr} {vs : List Value} {ns : List Int} (hfa : mg "law" = some (.ref fa)) (hL : s₁.heap.IsList l vs.toArray) (hI : IntsAre vs ns) (hn : ns.length ≤ 63) :
    wpAny (model prog w) callerA (call (.ref fa) [.ref l]) (fun v s' => v = .bool true ∧ OldK s₁.heap s'.heap ∧ s'.os = s₁.os ∧ s'.gens = s₁.gens) (fun _ _ => False) s₁ := by
  have hfa' : fa = 246 := by
    have := mg_of KX T.g (k_law w.params)
    rw [hfa] at this
    exact Value.ref.inj (Option.some.inj this)
  subst hfa'
  have KB := ghost_K hT9 KX (k_notabs w.params)
  have hS : NoneBooked (ghostOf s₁.heap [(72, 68), (65, 61)]) := by
    obtain ⟨mc, a, _⟩ := T.nolimit
    exact ⟨mc, ghost_ns hT9 a, ns_none_of KB (ghost_ns hT9 a) (k_booked w.params)⟩
  let c : Cx := {
    prog := prog, w := w, B := ghostOf s₁.heap [(72, 68), (65, 61)], K := Mine.hd.heap_39 w.params, mg := mg, mb := mb, tabs := [tab1, tab2], X := [],
    KB := KB, GB := ghost_ns hT9 T.g, BB := ghost_ns hT9 T.b, blt := T.builtins,
    lim := by obtain ⟨mc, a, r⟩ := T.nolimit; exact ⟨mc, ghost_ns hT9 a, r⟩,
    dig := by obtain ⟨mc, a, r⟩ := T.nodigits; exact ⟨mc, ghost_ns hT9 a, r⟩,
    book := hS }
  have hcd := ghost_code hT9
  have G : Good c := by
    refine ⟨rfl, ?_, hcd.2.1, hcd.1, hideAll_none _ (by simp), hideAll_none _ (by simp), rfl⟩
    obtain ⟨bm, ob, a1, a2, a3, a4, r⟩ := T.bmain
    exact ⟨bm, ob, a1, a2, ghost_get hT9 a3 (fun q => by rw [q] at a4; cases a4), a4, r⟩
  have I : ∀ tk, 0 < tk → Inv c s₁.heap tk := fun tk htk => by
    refine ⟨htk, fun b o e => of_hideAll _ e, fun t ht => ?_, fun x hx => by cases hx⟩
    have ht' : t = tab1 ∨ t = tab2 := by
      have : t ∈ [tab1, tab2] := ht
      simpa using this
    rcases ht' with rfl | rfl
    · exact ⟨#[], (hT9 (65, 61) (by simp)).2, .inl rfl⟩
    · exact ⟨#[], (hT9 (72, 68) (by simp)).2, .inl rfl⟩
  have run := call_law G (n := 0) hn callerA s₁ [.ref l] ⟨rfl, by decide, by decide⟩ I (.cons (.scr hL hI List.not_mem_nil) .nil)
  refine wpAny_mono run (fun v s' q => ?_) fun _ _ z => z
  obtain ⟨st, r⟩ := q
  refine ⟨by cases r; rfl, old_of hT9 st.inv.base fun q hq => ?_, by rw [st.sh], by rw [st.sh]⟩
  have hq' : q = (72, 68) ∨ q = (65, 61) := by simpa using hq
  rcases hq' with rfl | rfl
  · obtain ⟨ps, e, _⟩ := st.inv.tabs tab2 (by show tab2 ∈ [tab1, tab2]; simp)
    exact ⟨ps, e⟩
  · obtain ⟨ps, e, _⟩ := st.inv.tabs tab1 (by show tab1 ∈ [tab1, tab2]; simp)
    exact ⟨ps, e⟩


end Mine
set_option maxHeartbeats 8000000 in
theorem PySem.Challenge.cw_pu0067_01_holds : PySem.Challenge.rw_pu0067_01.Holds := by
  refine Mine.hd ?_
  k_fill
  intro w s₀ s₁ mg mb G Y fa o pm cd doc dV kV ho hd hcd hD hmg hg args vals as hpre hlay hrd hwl hlo
  have KX := km_in_of Y
  km_tabs Y
  refine Ground.open G ?_
  intro T B D TE TW
  clear D
  km_lay T hmg ho hd cd
  clear hd hcd hD ho
  wrow_args hpre hlay hrd hwl hlo
  rename_i ns _ _ _ _ _ _ _ l vs _ hL _ _ _ hI _ hlen _
  refine wpAny_mono (Mine.law_run KX T hT9 hmg hL hI (by omega)) (fun v s' q => ?_) fun _ _ z => z.elim
  obtain ⟨rfl, h1, h2, h3⟩ := q
  exact ⟨.inl ⟨_, .bool true, [], rfl, fun _ => rfl, .bool true, by first | with_unfolding_all rfl | kernel_rfl, fun _ => ⟨.nil, fun a h => nomatch h⟩⟩, h1, h2, .of_eq (h3.trans hg)⟩
