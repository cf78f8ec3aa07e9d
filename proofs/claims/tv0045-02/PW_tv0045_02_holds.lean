import PyProof.Rows.All
import Wide.All
import OpenK.AllK
import Wide.FinOn
import KE.KNest
import KE.KSortTup
import KE.BitLaws
import KE.IntBitsLaws
import KE.KNestM
import Lean
import PySem.Challenge.RW_tv0045_02
set_option Elab.async false
set_option linter.all false
set_option compiler.extract_closed false

section
set_option maxRecDepth 100000
namespace Yy
open PySem PySem.W PySem.Calls PyProof.Rows

/-- values as trees; lists that are turned are met by their address -/
inductive MV where
  | none
  | bool (b : Bool)
  | int (n : Int)
  | str (s : Str)
  | tup (xs : List MV)
  | lst (xs : List MV)
  | obj (a : Addr)
  | bi (s : String)
  | ty (s : String)

noncomputable abbrev Fz := Addr → Option Obj
noncomputable def Le (B B' : Fz) : Prop := ∀ a o, B a = some o → B' a = some o
theorem Le.refl (B : Fz) : Le B B := fun _ _ e => e
theorem Le.trans {B B' B'' : Fz} (x : Le B B') (y : Le B' B'') : Le B B'' := fun a o e => y a o (x a o e)

noncomputable abbrev tupO (l : List Value) (n : Nat) : Obj := { cls := .type "tuple", data := .seq l.toArray n }
noncomputable abbrev lstO (l : List Value) (n : Nat) : Obj := { cls := .type "list", data := .seq l.toArray n }

mutual
inductive VR (B : Fz) : Value → MV → Prop
  | none : VR B .none .none
  | bool {b} : VR B (.bool b) (.bool b)
  | int {n t} : VR B (.int n t) (.int n)
  | str {s t} : VR B (.str s t) (.str s)
  | obj {a} : VR B (.ref a) (.obj a)
  | bi {s} : VR B (.builtin s) (.bi s)
  | ty {s} : VR B (.type s) (.ty s)
  | tup {a n l xs} : B a = some (tupO l n) → VRs B l xs → VR B (.ref a) (.tup xs)
  | lst {a n l xs} : B a = some (lstO l n) → VRs B l xs → VR B (.ref a) (.lst xs)
inductive VRs (B : Fz) : List Value → List MV → Prop
  | nil : VRs B [] []
  | cons {v x vs xs} : VR B v x → VRs B vs xs → VRs B (v :: vs) (x :: xs)
end

/-- what is said of values holds where their lists and tuples stand -/
structure Seqs (B B' : Fz) : Prop where
  tup : ∀ {a l n}, B a = some (tupO l n) → B' a = some (tupO l n)
  lst : ∀ {a l n}, B a = some (lstO l n) → B' a = some (lstO l n)
theorem VR.map {B B' : Fz} (h : Seqs B B') {v x} (r : VR B v x) : VR B' v x :=
  VR.rec (motive_1 := fun v x _ => VR B' v x) (motive_2 := fun vs xs _ => VRs B' vs xs) .none .bool .int .str .obj .bi .ty (fun e _ i => .tup (h.tup e) i) (fun e _ i => .lst (h.lst e) i) .nil (fun _ _ i j => .cons i j) r
theorem VRs.map {B B' : Fz} (h : Seqs B B') {v x} (r : VRs B v x) : VRs B' v x :=
  VRs.rec (motive_1 := fun v x _ => VR B' v x) (motive_2 := fun vs xs _ => VRs B' vs xs) .none .bool .int .str .obj .bi .ty (fun e _ i => .tup (h.tup e) i) (fun e _ i => .lst (h.lst e) i) .nil (fun _ _ i j => .cons i j) r
theorem VR.mono {B B' : Fz} (h : Le B B') {v x} (r : VR B v x) : VR B' v x := r.map ⟨fun e => h _ _ e, fun e => h _ _ e⟩
theorem VRs.mono {B B' : Fz} (h : Le B B') {v x} (r : VRs B v x) : VRs B' v x := r.map ⟨fun e => h _ _ e, fun e => h _ _ e⟩

/-! what a value is, read off its tree -/
theorem VR.none_ {B : Fz} {v : Value} (r : VR B v .none) : v = .none := by cases r; rfl
theorem VR.bool_ {B : Fz} {v : Value} {b : Bool} (r : VR B v (.bool b)) : v = .bool b := by cases r; rfl
theorem VR.int_ {B : Fz} {v : Value} {n : Int} (r : VR B v (.int n)) : ∃ t, v = .int n t := by cases r; exact ⟨_, rfl⟩
theorem VR.str_ {B : Fz} {v : Value} {x : Str} (r : VR B v (.str x)) : ∃ t, v = .str x t := by cases r; exact ⟨_, rfl⟩
theorem VR.obj_ {B : Fz} {v : Value} {a : Addr} (r : VR B v (.obj a)) : v = .ref a := by cases r; rfl
theorem VR.bi_ {B : Fz} {v : Value} {i : String} (r : VR B v (.bi i)) : v = .builtin i := by cases r; rfl
theorem VR.ty_ {B : Fz} {v : Value} {i : String} (r : VR B v (.ty i)) : v = .type i := by cases r; rfl
theorem VR.tup_ {B : Fz} {v : Value} {xs : List MV} (r : VR B v (.tup xs)) : ∃ a n l, v = .ref a ∧ B a = some (tupO l n) ∧ VRs B l xs := by cases r with | tup e rs => exact ⟨_, _, _, rfl, e, rs⟩
theorem VR.lst_ {B : Fz} {v : Value} {xs : List MV} (r : VR B v (.lst xs)) : ∃ a n l, v = .ref a ∧ B a = some (lstO l n) ∧ VRs B l xs := by cases r with | lst e rs => exact ⟨_, _, _, rfl, e, rs⟩
theorem VRs.nil_ {B : Fz} {vs : List Value} (r : VRs B vs []) : vs = [] := by cases r; rfl
theorem VRs.cons_ {B : Fz} {vs : List Value} {x : MV} {xs : List MV} (r : VRs B vs (x :: xs)) : ∃ v vs', vs = v :: vs' ∧ VR B v x ∧ VRs B vs' xs := by cases r with | cons a b => exact ⟨_, _, rfl, a, b⟩
theorem VRs.one_ {B : Fz} {vs : List Value} {x : MV} (h : VRs B vs [x]) : ∃ v, vs = [v] ∧ VR B v x := by
  obtain ⟨v, vs', rfl, r, rs⟩ := h.cons_
  obtain rfl := rs.nil_
  exact ⟨v, rfl, r⟩
theorem VRs.two_ {B : Fz} {vs : List Value} {x y : MV} (h : VRs B vs [x, y]) : ∃ v u, vs = [v, u] ∧ VR B v x ∧ VR B u y := by
  obtain ⟨v, vs', rfl, r, rs⟩ := h.cons_
  obtain ⟨u, rfl, r2⟩ := rs.one_
  exact ⟨v, u, rfl, r, r2⟩
theorem VRs.three_ {B : Fz} {vs : List Value} {x y z : MV} (h : VRs B vs [x, y, z]) : ∃ v u q, vs = [v, u, q] ∧ VR B v x ∧ VR B u y ∧ VR B q z := by
  obtain ⟨v, vs', rfl, r, rs⟩ := h.cons_
  obtain ⟨u, q, rfl, r2, r3⟩ := rs.two_
  exact ⟨v, u, q, rfl, r, r2, r3⟩

@[elab_as_elim] theorem gen {α : Type} {P : α → Prop} (e : α) (h : ∀ x, P x) : P e := h e
@[elab_as_elim] theorem genE {α : Type} {P : α → Prop} (e : α) (h : ∀ x, e = x → P x) : P e := h e rfl
@[elab_as_elim] theorem pr5 {α β γ δ ε : Type} {P : α × β × γ × δ × ε → Prop} (s : α × β × γ × δ × ε) (h : ∀ a b c d e, P (a, b, c, d, e)) : P s := h s.1 s.2.1 s.2.2.1 s.2.2.2.1 s.2.2.2.2
theorem below_s {P : Nat → Prop} {n : Nat} (h : ∀ i < n, P i) (k : P n) : ∀ i < n + 1, P i := fun i hi => (Nat.lt_succ_iff_lt_or_eq.mp hi).elim (h i) fun e => e ▸ k
theorem below3 {P : Nat → Prop} (h0 : P 0) (h1 : P 1) (h2 : P 2) : ∀ i < 3, P i := below_s (below_s (below_s (fun i h => absurd h (Nat.not_lt_zero i)) h0) h1) h2
theorem below4 {P : Nat → Prop} (h0 : P 0) (h1 : P 1) (h2 : P 2) (h3 : P 3) : ∀ i < 4, P i := below_s (below3 h0 h1 h2) h3
theorem below5 {P : Nat → Prop} (h0 : P 0) (h1 : P 1) (h2 : P 2) (h3 : P 3) (h4 : P 4) : ∀ i < 5, P i := below_s (below4 h0 h1 h2 h3) h4
theorem below6 {P : Nat → Prop} (h0 : P 0) (h1 : P 1) (h2 : P 2) (h3 : P 3) (h4 : P 4) (h5 : P 5) : ∀ i < 6, P i := below_s (below5 h0 h1 h2 h3 h4) h5
theorem VRs.ind {B : Fz} {P : List Value → List MV → Prop} (h0 : P [] []) (h1 : ∀ {v x vs xs}, VR B v x → VRs B vs xs → P vs xs → P (v :: vs) (x :: xs)) {vs : List Value} {xs : List MV} (r : VRs B vs xs) : P vs xs :=
  VRs.rec (B := B) (motive_1 := fun _ _ _ => True) (motive_2 := fun vs xs _ => P vs xs) trivial trivial trivial trivial trivial trivial trivial (fun _ _ _ => trivial) (fun _ _ _ => trivial) h0 (fun a b _ i => h1 a b i) r
theorem VRs.length {B : Fz} {vs : List Value} {xs : List MV} (r : VRs B vs xs) : vs.length = xs.length :=
  r.ind (P := fun vs xs => vs.length = xs.length) rfl fun _ _ i => congrArg (· + 1) i
theorem VRs.get {B : Fz} {vs : List Value} {xs : List MV} (r : VRs B vs xs) : ∀ {i : Nat} {x}, xs[i]? = some x → ∃ v, vs[i]? = some v ∧ VR B v x := by
  refine r.ind (P := fun vs xs => ∀ {i : Nat} {x}, xs[i]? = some x → ∃ v, vs[i]? = some v ∧ VR B v x) (fun h => ?_) (fun {v x vs xs} a _ ih i y h => ?_)
  · cases h
  · cases i with
    | zero => exact ⟨v, rfl, Option.some.inj h ▸ a⟩
    | succ i => exact ih (i := i) h
theorem VRs.getv {B : Fz} {vs : List Value} {xs : List MV} (r : VRs B vs xs) : ∀ {i : Nat} {v}, vs[i]? = some v → ∃ x, xs[i]? = some x ∧ VR B v x := by
  refine r.ind (P := fun vs xs => ∀ {i : Nat} {v}, vs[i]? = some v → ∃ x, xs[i]? = some x ∧ VR B v x) (fun h => ?_) (fun {v x vs xs} a _ ih i y h => ?_)
  · cases h
  · cases i with
    | zero => exact ⟨x, rfl, Option.some.inj h ▸ a⟩
    | succ i => exact ih (i := i) h
theorem VRs.append {B : Fz} {vs xs us ys} (r : VRs B vs xs) (h : VRs B us ys) : VRs B (vs ++ us) (xs ++ ys) :=
  r.ind (P := fun vs xs => VRs B (vs ++ us) (xs ++ ys)) h fun a _ i => .cons a i
theorem VRs.take {B : Fz} {vs : List Value} {xs : List MV} (n : Nat) (r : VRs B vs xs) : VRs B (vs.take n) (xs.take n) :=
  r.ind (P := fun vs xs => ∀ n : Nat, VRs B (vs.take n) (xs.take n)) (fun n => by rw [List.take_nil, List.take_nil]; exact .nil) (fun a _ i n => n.rec .nil fun n _ => .cons a (i n)) n
theorem VRs.drop {B : Fz} {vs : List Value} {xs : List MV} (n : Nat) (r : VRs B vs xs) : VRs B (vs.drop n) (xs.drop n) :=
  r.ind (P := fun vs xs => ∀ n : Nat, VRs B (vs.drop n) (xs.drop n)) (fun n => by rw [List.drop_nil, List.drop_nil]; exact .nil) (fun a r i n => n.rec (.cons a r) fun n _ => i n) n
theorem VRs.set {B : Fz} {vs : List Value} {xs : List MV} (i : Nat) {v x} (r : VRs B vs xs) (h : VR B v x) : VRs B (vs.set i v) (xs.set i x) :=
  r.ind (P := fun vs xs => ∀ i : Nat, VRs B (vs.set i v) (xs.set i x)) (fun _ => .nil) (fun a r j i => i.rec (.cons h r) fun i _ => .cons a (j i)) i
theorem VRs.reverse {B : Fz} {vs : List Value} {xs : List MV} (r : VRs B vs xs) : VRs B vs.reverse xs.reverse :=
  r.ind (P := fun vs xs => VRs B vs.reverse xs.reverse) .nil fun a _ i => by
    rw [List.reverse_cons, List.reverse_cons]
    exact i.append (.cons a .nil)

/-- what the ledger knows of an address -/
inductive LC where
  | list (xs : List MV)
  | cell (v : Option MV)
  | ns (m : List (Str × MV))
  | prd (P : Obj → Prop)

noncomputable abbrev Led := List (Addr × LC)

noncomputable def LC.holds (B : Fz) (h : Heap) (a : Addr) : LC → Prop
  | .list xs => ∃ l n, h.get? a = some (lstO l n) ∧ VRs B l xs
  | .cell .none => h.IsCell a .none
  | .cell (.some x) => ∃ v, h.IsCell a (.some v) ∧ VR B v x
  | .ns m => ∃ f, h.Ns a f ∧ ∀ x y, m.lookup x = some y → ∃ v, f x = some v ∧ VR B v y
  | .prd P => ∃ o, h.get? a = some o ∧ P o

structure Hp (h₀ : Heap) (B : Fz) (h : Heap) (led : Led) : Prop where
  base : Le h₀.get? B
  keep : Le B h.get?
  nodup : (led.map (·.1)).Nodup
  own : ∀ p ∈ led, B p.1 = none ∧ p.2.holds B h p.1

theorem LC.mono {B B' : Fz} {h h' : Heap} {a : Addr} (hB : Le B B') (hh : ∀ o, h.get? a = some o → h'.get? a = some o) : ∀ {c : LC}, c.holds B h a → c.holds B' h' a
  | .list _, ⟨l, n, e, r⟩ => ⟨l, n, hh _ e, r.mono hB⟩
  | .cell .none, ⟨o, e, d⟩ => ⟨o, hh _ e, d⟩
  | .cell (.some _), ⟨v, ⟨o, e, d⟩, r⟩ => ⟨v, ⟨o, hh _ e, d⟩, r.mono hB⟩
  | .ns _, ⟨f, hn, r⟩ => ⟨f, hn.at' hh, fun x y e => let ⟨v, e', q⟩ := r x y e; ⟨v, e', q.mono hB⟩⟩
  | .prd _, ⟨o, e, p⟩ => ⟨o, hh _ e, p⟩

theorem LC.there {B : Fz} {h : Heap} {a : Addr} {c : LC} (q : c.holds B h a) : ∃ o, h.get? a = some o := by
  cases c with
  | list xs => exact q.elim fun l q => q.elim fun n q => ⟨_, q.1⟩
  | cell x =>
    cases x with
    | none => exact q.elim fun o q => ⟨o, q.1⟩
    | some x => exact q.elim fun v q => q.1.elim fun o q => ⟨o, q.1⟩
  | ns f => exact q.elim fun f q => q.1.elim fun o q => q.elim fun _ q => q.elim fun _ q => ⟨o, q.1⟩
  | prd P => exact q.elim fun o q => ⟨o, q.1⟩

section
variable {h₀ : Heap} {B B' : Fz} {h h' : Heap} {led led' : Led}

theorem Hp.sub (H : Hp h₀ B h led) (hs : led'.Sublist led) : Hp h₀ B h led' :=
  ⟨H.base, H.keep, H.nodup.sublist (hs.map _), fun p hp => H.own p (hs.subset hp)⟩

/-- the heap grew or turned at an address that nobody knows -/
theorem Hp.ext (H : Hp h₀ B h led) (e : ∀ b o, h.get? b = some o → (B b ≠ none ∨ b ∈ led.map (·.1)) → h'.get? b = some o) : Hp h₀ B h' led :=
  ⟨H.base, fun a o q => e a o (H.keep a o q) (.inl (by rw [q]; nofun)), H.nodup, fun p hp => ⟨(H.own p hp).1, LC.mono (Le.refl _) (fun o q => e _ o q (.inr (List.mem_map_of_mem hp))) (H.own p hp).2⟩⟩

theorem Hp.keeps (H : Hp h₀ B h led) (e : ∀ b o, h.get? b = some o → h'.get? b = some o) : Hp h₀ B h' led := H.ext fun b o q _ => e b o q

theorem Hp.old (H : Hp h₀ B h led) {a : Addr} (ha : h.get? a = none) : B a = none ∧ a ∉ led.map (·.1) := by
  refine ⟨?_, fun q => ?_⟩
  · cases e : B a with
    | none => rfl
    | some o => have := H.keep a o e; rw [ha] at this; cases this
  · obtain ⟨p, hp, rfl⟩ := List.mem_map.mp q
    obtain ⟨o, e⟩ := LC.there (H.own p hp).2
    rw [ha] at e; cases e

theorem fresh_none (h : Heap) : h.get? h.objs.size = none := by
  cases e : h.get? h.objs.size with
  | none => rfl
  | some o => exact absurd (Heap.lt_size e) (Nat.lt_irrefl _)

/-- a new object, into the ledger -/
theorem Hp.new (H : Hp h₀ B h led) {a : Addr} {c : LC} (ha : h.get? a = none) (e : ∀ b o, h.get? b = some o → h'.get? b = some o) (hc : c.holds B h' a) : Hp h₀ B h' ((a, c) :: led) := by
  obtain ⟨h1, h2⟩ := H.old ha
  have H' := H.keeps e
  refine ⟨H'.base, H'.keep, ?_, fun p hp => ?_⟩
  · rw [List.map_cons]; exact List.nodup_cons.mpr ⟨h2, H.nodup⟩
  · rcases List.mem_cons.mp hp with rfl | hp
    · exact ⟨h1, hc⟩
    · exact H'.own p hp

noncomputable def addB (B : Fz) (a : Addr) (o : Obj) : Fz := fun x => if x = a then some o else B x
theorem addB_le {a : Addr} {o : Obj} (hn : B a = none) : Le B (addB B a o) := fun x q e => by
  unfold addB
  split
  · subst_vars; rw [hn] at e; cases e
  · exact e
theorem addB_self {a : Addr} {o : Obj} : addB B a o a = some o := by simp [addB]

/-- a new object, frozen -/
theorem Hp.frz (H : Hp h₀ B h led) {a : Addr} {o : Obj} (ha : h.get? a = none) (e : ∀ b o, h.get? b = some o → h'.get? b = some o) (hc : h'.get? a = some o) : Hp h₀ (addB B a o) h' led ∧ Le B (addB B a o) := by
  obtain ⟨h1, h2⟩ := H.old ha
  have H' := H.keeps e
  have hle := addB_le (o := o) h1
  refine ⟨⟨H.base.trans hle, fun x q e' => ?_, H.nodup, fun p hp => ⟨?_, LC.mono hle (fun _ q => q) (H'.own p hp).2⟩⟩, hle⟩
  · unfold addB at e'
    split at e'
    · subst_vars; cases e'; exact hc
    · exact H'.keep x q e'
  · unfold addB
    rw [if_neg]
    · exact (H.own p hp).1
    · rintro rfl; exact h2 (List.mem_map_of_mem hp)

/-- a list of the ledger is frozen -/
theorem Hp.freeze {a : Addr} {xs : List MV} (H : Hp h₀ B h ((a, .list xs) :: led)) : ∃ B', Le B B' ∧ Hp h₀ B' h led ∧ VR B' (.ref a) (.lst xs) := by
  obtain ⟨h1, l, n, e, r⟩ := H.own (a, .list xs) (.head _)
  have hle := addB_le (o := lstO l n) h1
  have hnd : a ∉ led.map (·.1) ∧ (led.map (·.1)).Nodup := List.nodup_cons.mp (by have := H.nodup; rwa [List.map_cons] at this)
  refine ⟨addB B a (lstO l n), hle, ⟨H.base.trans hle, fun x q e' => ?_, hnd.2, fun p hp => ⟨?_, LC.mono hle (fun _ q => q) (H.own p (.tail _ hp)).2⟩⟩, .lst addB_self (r.mono hle)⟩
  · unfold addB at e'
    split at e'
    · subst_vars; cases e'; exact e
    · exact H.keep x q e'
  · unfold addB
    rw [if_neg]
    · exact (H.own p (.tail _ hp)).1
    · intro q; exact hnd.1 (q ▸ List.mem_map_of_mem hp)

/-- an entry of the ledger turns -/
theorem Hp.turn {a : Addr} {c c' : LC} {pre post : Led} (H : Hp h₀ B h (pre ++ (a, c) :: post)) (e : ∀ b o, b ≠ a → h.get? b = some o → h'.get? b = some o) (hc : c'.holds B h' a) : Hp h₀ B h' (pre ++ (a, c') :: post) := by
  have ha := H.own (a, c) (by simp)
  have hnd : ((pre ++ (a, c') :: post).map (·.1)).Nodup := by simpa using H.nodup
  refine ⟨H.base, fun x o q => e x o (fun z => ?_) (H.keep x o q), hnd, fun p hp => ?_⟩
  · rw [z, ha.1] at q; cases q
  · have hne : ∀ p ∈ pre ++ post, p.1 ≠ a := fun p hp z => by
      have h3 := H.nodup
      rw [List.map_append, List.map_cons, List.nodup_append] at h3
      obtain ⟨h4, h5, h6⟩ := h3
      rcases List.mem_append.mp hp with q | q
      · exact h6 _ (List.mem_map_of_mem q) a (by simp) z
      · exact (List.nodup_cons.mp h5).1 (by show a ∈ post.map (·.1); exact z ▸ List.mem_map_of_mem (f := (·.1)) q)
    have old : p ∈ pre ++ post → B p.1 = none ∧ p.2.holds B h' p.1 := fun hp => by
      have := H.own p (by simp at hp ⊢; rcases hp with q | q <;> simp [q])
      exact ⟨this.1, LC.mono (Le.refl _) (fun o q => e _ o (hne p hp) q) this.2⟩
    rcases List.mem_append.mp hp with q | q
    · exact old (List.mem_append_left _ q)
    · rcases List.mem_cons.mp q with rfl | q
      · exact ⟨ha.1, hc⟩
      · exact old (List.mem_append_right _ q)
end

section
variable {h₀ : Heap} {B B' : Fz} {h h' : Heap} {led led' : Led}
theorem Hp.perm (H : Hp h₀ B h led) (hp : led.Perm led') : Hp h₀ B h led' :=
  ⟨H.base, H.keep, (hp.map (·.1)).nodup_iff.mp H.nodup, fun p q => H.own p (hp.mem_iff.mpr q)⟩

noncomputable def delB (B : Fz) (a : Addr) : Fz := fun x => if x = a then none else B x
/-- an object that no value speaks of: neither a list nor a tuple -/
noncomputable def NoSeq (o : Obj) : Prop := o.cls ≠ .type "list" ∧ o.cls ≠ .type "tuple"
theorem Seqs.del {B : Fz} {a : Addr} {o : Obj} (ho : B a = some o) (hn : NoSeq o) : Seqs B (delB B a) where
  tup := fun e => by unfold delB; rw [if_neg (fun q => by rw [q, ho] at e; cases e; exact hn.2 rfl)]; exact e
  lst := fun e => by unfold delB; rw [if_neg (fun q => by rw [q, ho] at e; cases e; exact hn.1 rfl)]; exact e
theorem VR.del {B : Fz} {a : Addr} {o : Obj} (ho : B a = some o) (hn : NoSeq o) {v x} (r : VR B v x) : VR (delB B a) v x := r.map (.del ho hn)
theorem VRs.del {B : Fz} {a : Addr} {o : Obj} (ho : B a = some o) (hn : NoSeq o) {v x} (r : VRs B v x) : VRs (delB B a) v x := r.map (.del ho hn)
theorem LC.del {B : Fz} {h : Heap} {a b : Addr} {o : Obj} (ho : B a = some o) (hn : NoSeq o) : ∀ {c : LC}, c.holds B h b → c.holds (delB B a) h b
  | .list _, ⟨l, n, e, r⟩ => ⟨l, n, e, r.del ho hn⟩
  | .cell .none, e => e
  | .cell (.some _), ⟨v, e, r⟩ => ⟨v, e, r.del ho hn⟩
  | .ns _, ⟨f, hn', r⟩ => ⟨f, hn', fun x y e => let ⟨v, e', q⟩ := r x y e; ⟨v, e', q.del ho hn⟩⟩
  | .prd _, e => e

/-- an entry of the ledger stands still for a while -/
theorem Hp.still {a : Addr} {P : Obj → Prop} (H : Hp h₀ B h ((a, .prd P) :: led)) : ∃ o, P o ∧ B a = none ∧ Le B (addB B a o) ∧ Hp h₀ (addB B a o) h led := by
  obtain ⟨h1, o, e, p⟩ := H.own (a, .prd P) (.head _)
  have hle := addB_le (o := o) h1
  have hnd : a ∉ led.map (·.1) ∧ (led.map (·.1)).Nodup := List.nodup_cons.mp (by have := H.nodup; rwa [List.map_cons] at this)
  refine ⟨o, p, h1, hle, ⟨H.base.trans hle, fun x q e' => ?_, hnd.2, fun p hp => ⟨?_, LC.mono hle (fun _ q => q) (H.own p (.tail _ hp)).2⟩⟩⟩
  · unfold addB at e'
    split at e'
    · subst_vars; cases e'; exact e
    · exact H.keep x q e'
  · unfold addB
    rw [if_neg]
    · exact (H.own p (.tail _ hp)).1
    · intro q; exact hnd.1 (q ▸ List.mem_map_of_mem hp)
theorem Hp.stir {a : Addr} {o : Obj} {P : Obj → Prop} (H : Hp h₀ B h led) (ho : B a = some o) (h0 : h₀.get? a = none) (hn : NoSeq o) (p : P o) : Hp h₀ (delB B a) h ((a, .prd P) :: led) := by
  refine ⟨fun x q e => ?_, fun x q e => ?_, ?_, fun q hq => ?_⟩
  · unfold delB
    rw [if_neg (fun z => by rw [z, h0] at e; cases e)]
    exact H.base x q e
  · unfold delB at e
    split at e
    · cases e
    · exact H.keep x q e
  · rw [List.map_cons]
    refine List.nodup_cons.mpr ⟨fun q => ?_, H.nodup⟩
    obtain ⟨r, hr, e⟩ := List.mem_map.mp q
    have := (H.own r hr).1
    rw [e, ho] at this; cases this
  · rcases List.mem_cons.mp hq with rfl | hq
    · exact ⟨by simp [delB], o, H.keep _ _ ho, p⟩
    · refine ⟨?_, LC.del ho hn (H.own q hq).2⟩
      unfold delB
      split
      · rfl
      · exact (H.own q hq).1
theorem Le.del {B₁ : Fz} {a : Addr} (h1 : B₁ a = none) (hle : Le B₁ B) : Le B₁ (delB B a) := fun x o e => by
  unfold delB
  rw [if_neg (fun z => by rw [z, h1] at e; cases e)]
  exact hle x o e
end

noncomputable def NoE : Value → Shared → Prop := fun _ _ => False

/-- what is asked of the place: no exception is being handled; d calls and more of room -/
structure Rm (A : Around) (d : Nat) : Prop where
  handled : A.handled = none
  depth : A.depth + d ≤ 900
  units : A.units + 8 * d ≤ 9800
theorem Rm.in3 {A : Around} {d : Nat} (h : Rm A (d + 1)) : A.depth + 1 + d ≤ 900 ∧ A.units + 3 + 8 * d ≤ 9800 :=
  ⟨by rw [Nat.add_assoc, Nat.add_comm 1 d]; exact h.depth, Nat.le_trans (by rw [Nat.add_assoc, Nat.mul_succ, Nat.add_comm 3]; exact Nat.add_le_add_left (Nat.add_le_add_left (by decide) _) _) h.units⟩
theorem Rm.lt {A : Around} {d : Nat} (h : Rm A d) : A.depth < 1000 := Nat.lt_of_le_of_lt (Nat.le_trans (Nat.le_add_right _ _) h.depth) (by decide)

section
variable {prog : Program} {w : World} {h₀ : Heap} {α β : Type}

/-- a tree, run in a state that B and led tell of, ends in P -/
noncomputable def Tr (prog : Program) (w : World) (h₀ : Heap) (B : Fz) (A : Around) (led : Led) (t : Sem α) (P : Fz → Led → α → Prop) : Prop :=
  ∀ s (K : α → Shared → Prop), Hp h₀ B s.heap led →
    (∀ B' h' tk led' r, Le B B' → Hp h₀ B' h' led' → P B' led' r → K r { s with heap := h', toks := tk }) →
    wpAny (model prog w) A t K NoE s

variable {B : Fz} {A : Around} {led : Led}

theorem Tr.mono {t : Sem α} {P P' : Fz → Led → α → Prop} (h : Tr prog w h₀ B A led t P) (k : ∀ B' led' r, Le B B' → P B' led' r → P' B' led' r) : Tr prog w h₀ B A led t P' :=
  fun s _ H k' => h s _ H fun B' h' tk led' r le H' p => k' B' h' tk led' r le H' (k B' led' r le p)

/-- an expression's value -/
noncomputable def VP (Q : Led → MV → Prop) : Fz → Led → Value → Prop := fun B led v => ∃ x, VR B v x ∧ Q led x
theorem VP.mono {Q Q' : Led → MV → Prop} {B led v} (h : VP Q B led v) (k : ∀ x, Q led x → Q' led x) : VP Q' B led v := let ⟨x, r, q⟩ := h; ⟨x, r, k x q⟩


end
end Yy

end

section
set_option maxRecDepth 100000
namespace Yy
open PySem PySem.W PySem.Calls PyProof.Rows

noncomputable abbrev Vars := List (Str × MV)

/-- the globals: names of the text, names of the interpreter -/
structure Gd (h₀ : Heap) (G Bn : Vars) : Prop where
  top : ∃ p loose mg mb, TopRead p loose mg mb h₀ ∧ (∀ x y, G.lookup x = some y → ∃ v, mg x = some v ∧ ∀ B, VR B v y) ∧ (∀ x y, Bn.lookup x = some y → mg x = none ∧ ∃ v, mb x = some v ∧ ∀ B, VR B v y)

section
variable {prog : Program} {w : World} {h₀ : Heap}

/-- the frame at the head of the ledger -/
noncomputable abbrev fled (env : Env) (m : Vars) (led : Led) : Led := (env.locals, .ns m) :: led

noncomputable def EP (env : Env) (m : Vars) (Q : Led → MV → Prop) : Fz → Led → Value → Prop := fun B led v => ∃ x led1, led = fled env m led1 ∧ VR B v x ∧ Q led1 x
noncomputable def E1 (prog : Program) (w : World) (h₀ : Heap) (A : Around) (env : Env) (m : Vars) (led : Led) (e : Expr) (Q : Led → MV → Prop) : Prop :=
  ∀ B, Tr prog w h₀ B A (fled env m led) (eval e env) (EP env m Q)
noncomputable def TP (env : Env) (m : Vars) (Q : Led → Bool → Prop) : Fz → Led → Bool → Prop := fun _ led b => ∃ led1, led = fled env m led1 ∧ Q led1 b
noncomputable def T1 (prog : Program) (w : World) (h₀ : Heap) (A : Around) (env : Env) (m : Vars) (led : Led) (e : Expr) (Q : Led → Bool → Prop) : Prop :=
  ∀ B, Tr prog w h₀ B A (fled env m led) (isTrue e env (eval e env)) (TP env m Q)
/-- several, from the left -/
noncomputable def SP (env : Env) (m : Vars) (Q : Led → List MV → Prop) : Fz → Led → List Value → Prop := fun B led vs => ∃ xs led1, led = fled env m led1 ∧ VRs B vs xs ∧ Q led1 xs
noncomputable def FP1 (env : Env) (Qn : Vars → Led → Prop) (Qr : Led → MV → Prop) : Fz → Led → Flow → Prop := fun B led f => match f with
  | .next => ∃ m led1, led = fled env m led1 ∧ Qn m led1
  | .ret v => ∃ x m led1, led = fled env m led1 ∧ VR B v x ∧ Qr led1 x
  | _ => False
noncomputable def X1 (prog : Program) (w : World) (h₀ : Heap) (A : Around) (env : Env) (m : Vars) (led : Led) (st : Stmt) (Qn : Vars → Led → Prop) (Qr : Led → MV → Prop) : Prop :=
  ∀ B, Tr prog w h₀ B A (fled env m led) (exec st env) (FP1 env Qn Qr)
noncomputable def Xs (prog : Program) (w : World) (h₀ : Heap) (A : Around) (env : Env) (m : Vars) (led : Led) (st : List Stmt) (Qn : Vars → Led → Prop) (Qr : Led → MV → Prop) : Prop :=
  ∀ B, Tr prog w h₀ B A (fled env m led) (execs st env) (FP1 env Qn Qr)

variable {A : Around} {env : Env} {m : Vars} {led : Led} {Q : Led → MV → Prop} {QT : Led → Bool → Prop} {Qn : Vars → Led → Prop} {Qr : Led → MV → Prop}

theorem E1.mono {e : Expr} {Q' : Led → MV → Prop} (h : E1 prog w h₀ A env m led e Q) (k : ∀ l x, Q l x → Q' l x) : E1 prog w h₀ A env m led e Q' :=
  fun B => (h B).mono fun _ _ _ _ ⟨x, l, e, r, q⟩ => ⟨x, l, e, r, k l x q⟩
theorem T1.mono {e : Expr} {Q' : Led → Bool → Prop} (h : T1 prog w h₀ A env m led e QT) (k : ∀ l x, QT l x → Q' l x) : T1 prog w h₀ A env m led e Q' :=
  fun B => (h B).mono fun _ _ _ _ ⟨l, e, q⟩ => ⟨l, e, k l _ q⟩
theorem Xs.mono {st : List Stmt} {Qn' : Vars → Led → Prop} {Qr' : Led → MV → Prop} (h : Xs prog w h₀ A env m led st Qn Qr) (k : ∀ m l, Qn m l → Qn' m l) (k' : ∀ l x, Qr l x → Qr' l x) : Xs prog w h₀ A env m led st Qn' Qr' :=
  fun B => (h B).mono fun _ _ f _ p => by
    cases f with
    | next => obtain ⟨m, l, e, q⟩ := p; exact ⟨m, l, e, k m l q⟩
    | ret v => obtain ⟨x, m, l, e, r, q⟩ := p; exact ⟨x, m, l, e, r, k' l x q⟩
    | _ => exact p

theorem E1.use {e : Expr} (h : E1 prog w h₀ A env m led e Q) {B : Fz} {s : Shared} {K : Value → Shared → Prop} (H : Hp h₀ B s.heap (fled env m led))
    (k : ∀ B' h' tk v x led1, Le B B' → Hp h₀ B' h' (fled env m led1) → VR B' v x → Q led1 x → K v { s with heap := h', toks := tk }) : wpAny (model prog w) A (eval e env) K NoE s :=
  h B s _ H fun _ _ _ _ _ le H' p => by
    obtain ⟨x, led1, rfl, ra, q⟩ := p
    exact k _ _ _ _ _ _ le H' ra q
theorem T1.use {e : Expr} (h : T1 prog w h₀ A env m led e QT) {B : Fz} {s : Shared} {K : Bool → Shared → Prop} (H : Hp h₀ B s.heap (fled env m led))
    (k : ∀ B' h' tk b led1, Le B B' → Hp h₀ B' h' (fled env m led1) → QT led1 b → K b { s with heap := h', toks := tk }) : wpAny (model prog w) A (isTrue e env (eval e env)) K NoE s :=
  h B s _ H fun _ _ _ _ _ le H' p => by
    obtain ⟨led1, rfl, q⟩ := p
    exact k _ _ _ _ _ le H' q
theorem EP.of {B : Fz} {v : Value} {x : MV} {led1 : Led} (r : VR B v x) (q : Q led1 x) : EP env m Q B (fled env m led1) v := ⟨x, ⟨led1, rfl, r, q⟩⟩

/-- a step that leaves the heap as it is, but for the tokens -/
theorem Tr.quiet {α : Type} {B : Fz} {led : Led} {t : Sem α} {P : Fz → Led → α → Prop}
    (h : ∀ s (K : α → Shared → Prop), (∀ r tk, P B led r → K r { s with toks := tk }) → wpAny (model prog w) A t K NoE s) : Tr prog w h₀ B A led t P :=
  fun s K H k => h s K fun r tk p => k B s.heap tk led r (Le.refl _) H p

/-! ### names and constants -/
theorem E1.int {n : Int} {k pos} (h : Q led (.int n)) : E1 prog w h₀ A env m led (.Constant (.int n) k pos) Q :=
  fun B => Tr.quiet fun s K k => wpAny_Constant_int (k _ _ (.of .int h))
theorem E1.str {x : Str} {k pos} (h : Q led (.str x)) : E1 prog w h₀ A env m led (.Constant (.str x) k pos) Q :=
  fun B => Tr.quiet fun s K k => Constant_str (k _ _ (.of .str h))
theorem E1.bool {b : Bool} {k pos} (h : Q led (.bool b)) : E1 prog w h₀ A env m led (.Constant (.bool b) k pos) Q :=
  fun B => Tr.quiet fun s K k => Constant_bool (k _ s.toks (.of .bool h))
theorem E1.none {k pos} (h : Q led .none) : E1 prog w h₀ A env m led (.Constant .none k pos) Q :=
  fun B => Tr.quiet fun s K k => Constant_none (k _ s.toks (.of .none h))

theorem Hp.ns {B : Fz} {h : Heap} {a : Addr} {m : Vars} {led : Led} (H : Hp h₀ B h ((a, .ns m) :: led)) : ∃ f, h.Ns a f ∧ ∀ x y, m.lookup x = some y → ∃ v, f x = some v ∧ VR B v y := (H.own _ (.head _)).2
theorem E1.loc {x : Str} {y : MV} {pos} (hk : env.scope.kind = .function) (hl : env.kindOf x = some .local) (hv : m.lookup x = some y) (h : Q led y)
    (hd : (x == ("__debug__" : Str)) = false := by decide) : E1 prog w h₀ A env m led (.Name x pos) Q := fun B s K H k => by
  obtain ⟨f, hn, hr⟩ := H.ns
  obtain ⟨v, e, r⟩ := hr x y hv
  exact wpAny_Name (wpAny_loadName_local hk hl hn e (k B s.heap s.toks _ v (Le.refl _) H (.of r h))) hd
theorem Hp.cell {B : Fz} {h : Heap} {c : Addr} {y : MV} {led : Led} (H : Hp h₀ B h led) (hc : (c, LC.cell (some y)) ∈ led) : ∃ v, h.IsCell c (some v) ∧ VR B v y := (H.own _ hc).2
theorem E1.cell {x : Str} {y : MV} {pos} {c : Addr} (hk : env.scope.kind = .function) (hl : env.kindOf x = some .cell) (hc : env.cells.lookup x = some c) (hm : (c, LC.cell (some y)) ∈ led) (h : Q led y)
    (hd : (x == ("__debug__" : Str)) = false := by decide) : E1 prog w h₀ A env m led (.Name x pos) Q := fun B s K H k => by
  obtain ⟨v, e, r⟩ := H.cell (List.mem_cons_of_mem _ hm)
  exact wpAny_Name (wpAny_loadName_cell hk hl hc e (k B s.heap s.toks _ v (Le.refl _) H (.of r h))) hd
theorem E1.free {x : Str} {y : MV} {pos} {c : Addr} (hk : env.scope.kind = .function) (hl : env.kindOf x = some .free) (hc : env.cells.lookup x = some c) (hm : (c, LC.cell (some y)) ∈ led) (h : Q led y)
    (hd : (x == ("__debug__" : Str)) = false := by decide) (hx : (x == ("__classdict__" : Str)) = false := by decide) : E1 prog w h₀ A env m led (.Name x pos) Q := fun B s K H k => by
  obtain ⟨v, e, r⟩ := H.cell (List.mem_cons_of_mem _ hm)
  exact wpAny_Name (wpAny_loadName_free hk hl hc e (k B s.heap s.toks _ v (Le.refl _) H (.of r h)) hx) hd
theorem E1.glob {G Bn : Vars} {x : Str} {y : MV} {pos} (hG : Gd h₀ G Bn) (hk : env.scope.kind = .function) (hl : env.kindOf x = some .globalImplicit) (hg : env.globals = mainGlobals) (hv : G.lookup x = some y) (h : Q led y)
    (hd : (x == ("__debug__" : Str)) = false := by decide) : E1 prog w h₀ A env m led (.Name x pos) Q := fun B s K H k => by
  obtain ⟨p, loose, mg, mb, T, h1, h2⟩ := hG.top
  obtain ⟨v, e, r⟩ := h1 x y hv
  exact Name_function_global hk hl (loadGlobal_global (hg ▸ T.g.keeps (H.base.trans H.keep)) e (k B s.heap s.toks _ v (Le.refl _) H ⟨y, led, rfl, r B, h⟩)) hd
theorem E1.blt {G Bn : Vars} {x : Str} {y : MV} {pos} (hG : Gd h₀ G Bn) (hk : env.scope.kind = .function) (hl : env.kindOf x = some .globalImplicit) (hg : env.globals = mainGlobals) (hb : env.builtins = builtinsNs) (hv : Bn.lookup x = some y) (h : Q led y)
    (hd : (x == ("__debug__" : Str)) = false := by decide) : E1 prog w h₀ A env m led (.Name x pos) Q := fun B s K H k => by
  obtain ⟨p, loose, mg, mb, T, h1, h2⟩ := hG.top
  obtain ⟨e0, v, e, r⟩ := h2 x y hv
  exact Name_function_global hk hl (loadGlobal_builtin (hg ▸ T.g.keeps (H.base.trans H.keep)) e0 (hb ▸ T.b.keeps (H.base.trans H.keep)) e (k B s.heap s.toks _ v (Le.refl _) H ⟨y, led, rfl, r B, h⟩)) hd

/-! ### operators on plain values -/
inductive BinQ : Operator → MV → MV → (MV → Prop) → Prop
  | add {a b : Int} {Q : MV → Prop} : Q (.int (a + b)) → BinQ .Add (.int a) (.int b) Q
  | sub {a b : Int} {Q : MV → Prop} : Q (.int (a - b)) → BinQ .Sub (.int a) (.int b) Q
  | mul {a b : Int} {Q : MV → Prop} : Q (.int (a * b)) → IntMulOk a b → BinQ .Mult (.int a) (.int b) Q
  | fdiv {a b : Int} {Q : MV → Prop} : Q (.int (a.fdiv b)) → b ≠ 0 → Builtin.divisionGoesByPylong a b = false → BinQ .FloorDiv (.int a) (.int b) Q
  | mod {a b : Int} {Q : MV → Prop} : Q (.int (a.fmod b)) → b ≠ 0 → BinQ .Mod (.int a) (.int b) Q
  | pow {a b : Int} {Q : MV → Prop} : Q (.int (a ^ b.toNat)) → (0 ≤ b ∧ (Builtin.Int.intBits a : Int) * b ≤ 2 ^ 27) → BinQ .Pow (.int a) (.int b) Q
  | shl {a b : Int} {Q : MV → Prop} : Q (.int (a * 2 ^ b.toNat)) → (0 ≤ b ∧ (Builtin.Int.intBits a : Int) + b ≤ 2 ^ 27) → BinQ .LShift (.int a) (.int b) Q
  | shr {a b : Int} {Q : MV → Prop} : Q (.int (a.fdiv (2 ^ b.toNat))) → 0 ≤ b → BinQ .RShift (.int a) (.int b) Q
  | and {a b : Int} {Q : MV → Prop} : Q (.int (Builtin.bitAnd a b)) → BinQ .BitAnd (.int a) (.int b) Q
  | or {a b : Int} {Q : MV → Prop} : Q (.int (Builtin.bitOr a b)) → BinQ .BitOr (.int a) (.int b) Q
  | xor {a b : Int} {Q : MV → Prop} : Q (.int (Builtin.bitXor a b)) → BinQ .BitXor (.int a) (.int b) Q
  | adds {a b : Str} {Q : MV → Prop} : Q (.str (a ++ b)) → a.length + b.length ≤ sizeLine → BinQ .Add (.str a) (.str b) Q
  | muls {a : Str} {b : Int} {Q : MV → Prop} : Q (.str (Txt.mul a b)) → PySem.MulOk a b → BinQ .Mult (.str a) (.int b) Q

theorem BinQ.sound {op : Operator} {B : Fz} {a b : Value} {x y : MV} {Q : MV → Prop} {s : Shared} {K : Value → Shared → Prop} (ra : VR B a x) (rb : VR B b y) (q : BinQ op x y Q)
    (k : ∀ v tk z, VR B v z → Q z → K v { s with toks := tk }) : wpAny (model prog w) A (binaryOp op a b) K NoE s := by
  cases q with
  | add h => obtain ⟨_, rfl⟩ := ra.int_; obtain ⟨_, rfl⟩ := rb.int_; exact PyProof.Rows.add_int (k _ _ _ .int h)
  | sub h => obtain ⟨_, rfl⟩ := ra.int_; obtain ⟨_, rfl⟩ := rb.int_; exact PyProof.Rows.sub_int' (k _ _ _ .int h)
  | mul h h' => obtain ⟨_, rfl⟩ := ra.int_; obtain ⟨_, rfl⟩ := rb.int_; exact PyProof.Rows.mul_int (k _ _ _ .int h) h'
  | fdiv h h0 h' => obtain ⟨_, rfl⟩ := ra.int_; obtain ⟨_, rfl⟩ := rb.int_; exact PyProof.Rows.floordiv_int h0 (k _ _ _ .int h) (.inl h')
  | mod h h0 => obtain ⟨_, rfl⟩ := ra.int_; obtain ⟨_, rfl⟩ := rb.int_; exact PyProof.Rows.mod_int' h0 (k _ _ _ .int h)
  | pow h h' => obtain ⟨_, rfl⟩ := ra.int_; obtain ⟨_, rfl⟩ := rb.int_; exact PyProof.Rows.pow_int h'.1 h'.2 (k _ _ _ .int h)
  | shl h h' => obtain ⟨_, rfl⟩ := ra.int_; obtain ⟨_, rfl⟩ := rb.int_; exact PyProof.Rows.lshift_int h'.1 h'.2 (k _ _ _ .int h)
  | shr h h' => obtain ⟨_, rfl⟩ := ra.int_; obtain ⟨_, rfl⟩ := rb.int_; exact PyProof.Rows.rshift_int h' (k _ _ _ .int h)
  | and h => obtain ⟨_, rfl⟩ := ra.int_; obtain ⟨_, rfl⟩ := rb.int_; exact PyProof.Rows.and_int (k _ _ _ .int h)
  | or h => obtain ⟨_, rfl⟩ := ra.int_; obtain ⟨_, rfl⟩ := rb.int_; exact PyProof.Rows.or_int (k _ _ _ .int h)
  | xor h => obtain ⟨_, rfl⟩ := ra.int_; obtain ⟨_, rfl⟩ := rb.int_; exact PyProof.Rows.xor_int (k _ _ _ .int h)
  | adds h h' => obtain ⟨_, rfl⟩ := ra.str_; obtain ⟨_, rfl⟩ := rb.str_; exact PyProof.Rows.add_str (fun t tk => k _ _ _ .str h) h'
  | muls h h' => obtain ⟨_, rfl⟩ := ra.str_; obtain ⟨_, rfl⟩ := rb.int_; exact SB.mul h' (fun t tk => k _ _ _ .str h)

theorem E1.bin {l r : Expr} {op : Operator} {pos} (h : E1 prog w h₀ A env m led l (fun led1 x => E1 prog w h₀ A env m led1 r (fun led2 y => BinQ op x y (Q led2)))) : E1 prog w h₀ A env m led (.BinOp l op r pos) Q := fun B s K H k => by
  refine wpAny_BinOp (E1.use h H fun B1 h1 tk1 a x led1 le1 H1 ra q => ?_)
  refine E1.use q H1 fun B2 h2 tk2 b y led2 le2 H2 rb q2 => ?_
  exact BinQ.sound (ra.mono le2) rb q2 fun v tk z rv qz => k B2 h2 tk _ v (le1.trans le2) H2 (.of rv qz)

inductive UnQ : UnaryOp → MV → (MV → Prop) → Prop
  | neg {a : Int} {Q : MV → Prop} : Q (.int (-a)) → UnQ .USub (.int a) Q
  | inv {a : Int} {Q : MV → Prop} : Q (.int (Builtin.bitNot a)) → UnQ .Invert (.int a) Q
theorem E1.un {e : Expr} {op : UnaryOp} {pos} (h : E1 prog w h₀ A env m led e (fun led1 x => UnQ op x (Q led1))) : E1 prog w h₀ A env m led (.UnaryOp op e pos) Q := fun B s K H k =>
  UnaryOp_ (h.use H fun B1 h1 tk1 a x led1 le1 H1 ra q => by
    cases q with
    | neg h => obtain ⟨_, rfl⟩ := ra.int_; exact PyProof.Rows.neg_int (k B1 h1 _ _ _ le1 H1 (.of .int h))
    | inv h => obtain ⟨_, rfl⟩ := ra.int_; exact PyProof.Rows.invert_int (k B1 h1 _ _ _ le1 H1 (.of .int h)))

/-! ### comparisons of plain values -/
inductive CmpQ : CmpOp → MV → MV → (MV → Prop) → Prop
  | eqi {a b : Int} {Q : MV → Prop} : Q (.bool (a == b)) → CmpQ .Eq (.int a) (.int b) Q
  | nei {a b : Int} {Q : MV → Prop} : Q (.bool (a != b)) → CmpQ .NotEq (.int a) (.int b) Q
  | lti {a b : Int} {Q : MV → Prop} : Q (.bool (decide (a < b))) → CmpQ .Lt (.int a) (.int b) Q
  | lei {a b : Int} {Q : MV → Prop} : Q (.bool (decide (a ≤ b))) → CmpQ .LtE (.int a) (.int b) Q
  | gti {a b : Int} {Q : MV → Prop} : Q (.bool (decide (a > b))) → CmpQ .Gt (.int a) (.int b) Q
  | gei {a b : Int} {Q : MV → Prop} : Q (.bool (decide (a ≥ b))) → CmpQ .GtE (.int a) (.int b) Q
  | eqs {a b : Str} {Q : MV → Prop} : Q (.bool (a == b)) → CmpQ .Eq (.str a) (.str b) Q
  | nes {a b : Str} {Q : MV → Prop} : Q (.bool (a != b)) → CmpQ .NotEq (.str a) (.str b) Q
  | isn {Q : MV → Prop} : Q (.bool true) → CmpQ .Is .none .none Q
  | iso {a : Addr} {Q : MV → Prop} : Q (.bool false) → CmpQ .Is (.obj a) .none Q
  | isi {a : Int} {Q : MV → Prop} : Q (.bool false) → CmpQ .Is (.int a) .none Q
theorem CmpQ.sound {op : CmpOp} {B : Fz} {a b : Value} {x y : MV} {Q : MV → Prop} {s : Shared} {K : Value → Shared → Prop} (ra : VR B a x) (rb : VR B b y) (q : CmpQ op x y Q)
    (k : ∀ v z, VR B v z → Q z → K v s) : wpAny (model prog w) A (compareOp op a b) K NoE s := by
  cases q with
  | eqi h => obtain ⟨_, rfl⟩ := ra.int_; obtain ⟨_, rfl⟩ := rb.int_; exact PyProof.Rows.eq_int (k _ _ .bool h)
  | nei h => obtain ⟨_, rfl⟩ := ra.int_; obtain ⟨_, rfl⟩ := rb.int_; exact PySem.P.ne_int (k _ _ .bool h)
  | lti h => obtain ⟨_, rfl⟩ := ra.int_; obtain ⟨_, rfl⟩ := rb.int_; exact PyProof.Rows.lt_int (k _ _ .bool h)
  | lei h => obtain ⟨_, rfl⟩ := ra.int_; obtain ⟨_, rfl⟩ := rb.int_; exact PySem.P.le_int (k _ _ .bool h)
  | gti h => obtain ⟨_, rfl⟩ := ra.int_; obtain ⟨_, rfl⟩ := rb.int_; exact PySem.P.gt_int (k _ _ .bool h)
  | gei h => obtain ⟨_, rfl⟩ := ra.int_; obtain ⟨_, rfl⟩ := rb.int_; exact PySem.P.ge_int (k _ _ .bool h)
  | eqs h => obtain ⟨_, rfl⟩ := ra.str_; obtain ⟨_, rfl⟩ := rb.str_; exact PyProof.Rows.eq_str (k _ _ .bool h)
  | nes h => obtain ⟨_, rfl⟩ := ra.str_; obtain ⟨_, rfl⟩ := rb.str_; exact PyProof.Rows.ne_str (k _ _ .bool h)
  | isn h => obtain rfl := ra.none_; obtain rfl := rb.none_; exact wpAny_is_self rfl (k _ _ .bool h)
  | iso h => obtain rfl := ra.obj_; obtain rfl := rb.none_; exact wpAny_is_other rfl (by nofun) (k _ _ .bool h)
  | isi h => obtain ⟨_, rfl⟩ := ra.int_; obtain rfl := rb.none_; exact wpAny_is_other rfl (by nofun) (k _ _ .bool h)
theorem E1.cmp {l r : Expr} {op : CmpOp} {pos} (h : E1 prog w h₀ A env m led l (fun led1 x => E1 prog w h₀ A env m led1 r (fun led2 y => CmpQ op x y (Q led2))))
    (hm : behindInMarks op r = false := by rfl) : E1 prog w h₀ A env m led (.Compare l [op] [r] pos) Q := fun B s K H k => by
  refine wpAny_Compare1 (E1.use h H fun B1 h1 tk1 a x led1 le1 H1 ra q => ?_) hm
  refine E1.use q H1 fun B2 h2 tk2 b y led2 le2 H2 rb q2 => ?_
  exact CmpQ.sound (ra.mono le2) rb q2 fun v z rv qz => k B2 h2 _ _ v (le1.trans le2) H2 (.of rv qz)

/-! ### truth -/
inductive TruQ : MV → (Bool → Prop) → Prop
  | bool {b : Bool} {Q : Bool → Prop} : Q b → TruQ (.bool b) Q
  | int {n : Int} {Q : Bool → Prop} : Q (n != 0) → TruQ (.int n) Q
  | none {Q : Bool → Prop} : Q false → TruQ .none Q
  | str {x : Str} {Q : Bool → Prop} : (x.length : Int) < 2 ^ 63 → Q ((x.length : Int) != 0) → TruQ (.str x) Q
theorem TruQ.sound {B : Fz} {a : Value} {x : MV} {Q : Bool → Prop} {s : Shared} {K : Bool → Shared → Prop} (ra : VR B a x) (q : TruQ x Q)
    (k : ∀ b tk, Q b → K b { s with toks := tk }) : wpAny (model prog w) A (truthy a) K NoE s := by
  cases q with
  | bool h => obtain rfl := ra.bool_; exact wpAny_truthy_bool (k _ s.toks h)
  | int h => obtain ⟨_, rfl⟩ := ra.int_; exact PyProof.Rows.truthy_int (k _ s.toks h)
  | none h => obtain rfl := ra.none_; exact truthy_none (k _ s.toks h)
  | str h h' => obtain ⟨_, rfl⟩ := ra.str_; exact PySem.P.truthy_str (Int.not_le.mpr h) (k _ _ h')

theorem T1.cmp {l r : Expr} {op : CmpOp} {pos} (h : E1 prog w h₀ A env m led l (fun led1 x => E1 prog w h₀ A env m led1 r (fun led2 y => CmpQ op x y (fun z => TruQ z (QT led2)))))
    (hm : behindInMarks op r = false := by rfl) : T1 prog w h₀ A env m led (.Compare l [op] [r] pos) QT := fun B s K H k => by
  refine wpAny_isTrue_Compare1 (E1.use h H fun B1 h1 tk1 a x led1 le1 H1 ra q => ?_) hm
  refine E1.use q H1 fun B2 h2 tk2 b y led2 le2 H2 rb q2 => ?_
  exact CmpQ.sound (ra.mono le2) rb q2 fun v z rv qz => TruQ.sound rv qz fun b tk qb => k B2 h2 tk _ b (le1.trans le2) H2 ⟨led2, rfl, qb⟩
theorem T1.not {e : Expr} {pos} (h : T1 prog w h₀ A env m led e (fun l b => QT l (!b))) : T1 prog w h₀ A env m led (.UnaryOp .Not e pos) QT := fun B s K H k => by
  refine isTrue_not (T1.use h H fun B1 h1 tk1 a led1 le1 H1 q => ?_)
  exact k B1 h1 tk1 _ _ le1 H1 ⟨led1, rfl, q⟩
theorem T1.and0 {pos} (h : QT led true) : T1 prog w h₀ A env m led (.BoolOp .And [] pos) QT := fun B s K H k => isTrue_and_nil (k B s.heap s.toks _ _ (Le.refl _) H ⟨led, rfl, h⟩)
theorem T1.or0 {pos} (h : QT led false) : T1 prog w h₀ A env m led (.BoolOp .Or [] pos) QT := fun B s K H k => isTrue_or_nil (k B s.heap s.toks _ _ (Le.refl _) H ⟨led, rfl, h⟩)
theorem T1.and {e : Expr} {rest : List Expr} {pos} (h : T1 prog w h₀ A env m led e (fun l b => (b = true → T1 prog w h₀ A env m l (.BoolOp .And rest pos) QT) ∧ (b = false → QT l false))) : T1 prog w h₀ A env m led (.BoolOp .And (e :: rest) pos) QT := fun B s K H k => by
  refine isTrue_and (T1.use h H fun B1 h1 tk1 a led1 le1 H1 q => ?_)
  cases a with
  | true => exact (q.1 rfl) B1 _ _ H1 fun B2 h2 tk2 l r le2 H2 p => k B2 h2 tk2 l r (le1.trans le2) H2 p
  | false => exact k B1 h1 tk1 _ _ le1 H1 ⟨led1, rfl, q.2 rfl⟩
theorem T1.or {e : Expr} {rest : List Expr} {pos} (h : T1 prog w h₀ A env m led e (fun l b => (b = true → QT l true) ∧ (b = false → T1 prog w h₀ A env m l (.BoolOp .Or rest pos) QT))) : T1 prog w h₀ A env m led (.BoolOp .Or (e :: rest) pos) QT := fun B s K H k => by
  refine isTrue_or (T1.use h H fun B1 h1 tk1 a led1 le1 H1 q => ?_)
  cases a with
  | true => exact k B1 h1 tk1 _ _ le1 H1 ⟨led1, rfl, q.1 rfl⟩
  | false => exact (q.2 rfl) B1 _ _ H1 fun B2 h2 tk2 l r le2 H2 p => k B2 h2 tk2 l r (le1.trans le2) H2 p
theorem T1.plain {e : Expr} (h : E1 prog w h₀ A env m led e (fun l x => TruQ x (QT l)))
    (he : isTrue e env (eval e env) = (do let v ← eval e env; standAt e.pos; holding [v] (truthy v)) := by rfl) : T1 prog w h₀ A env m led e QT := fun B s K H k => by
  refine isTrue_plain (E1.use h H fun B1 h1 tk1 a x led1 le1 H1 ra q => ?_) he
  exact TruQ.sound ra q fun b tk qb => k B1 h1 tk _ _ le1 H1 ⟨led1, rfl, qb⟩
theorem E1.ifexp {t a b : Expr} {pos} (h : T1 prog w h₀ A env m led t (fun l c => (c = true → E1 prog w h₀ A env m l a Q) ∧ (c = false → E1 prog w h₀ A env m l b Q))) : E1 prog w h₀ A env m led (.IfExp t a b pos) Q := fun B s K H k => by
  refine IfExp_ (T1.use h H fun B1 h1 tk1 c led1 le1 H1 q => ?_)
  cases c with
  | true => exact (q.1 rfl) B1 _ _ H1 fun B2 h2 tk2 l r le2 H2 p => k B2 h2 tk2 l r (le1.trans le2) H2 p
  | false => exact (q.2 rfl) B1 _ _ H1 fun B2 h2 tk2 l r le2 H2 p => k B2 h2 tk2 l r (le1.trans le2) H2 p
theorem E1.or1 {e : Expr} {pos} (h : E1 prog w h₀ A env m led e Q) : E1 prog w h₀ A env m led (.BoolOp .Or [e] pos) Q := fun B s K H k => BoolOp_one (h B s K H k)
theorem E1.or {e e2 : Expr} {rest : List Expr} {pos} (h : E1 prog w h₀ A env m led e (fun l x => TruQ x (fun c => (c = true → Q l x) ∧ (c = false → E1 prog w h₀ A env m l (.BoolOp .Or (e2 :: rest) pos) Q)))) : E1 prog w h₀ A env m led (.BoolOp .Or (e :: e2 :: rest) pos) Q := fun B s K H k => by
  refine BoolOp_or (E1.use h H fun B1 h1 tk1 a x led1 le1 H1 ra q => ?_)
  refine TruQ.sound ra q fun c tk qc => ?_
  cases c with
  | true => exact k B1 h1 tk _ _ le1 H1 (.of ra (qc.1 rfl))
  | false => exact (qc.2 rfl) B1 _ _ H1 fun B2 h2 tk2 l r le2 H2 p => k B2 h2 tk2 l r (le1.trans le2) H2 p

/-! ### statements -/
theorem Xs.nil (h : Qn m led) : Xs prog w h₀ A env m led [] Qn Qr := fun B s K H k => wpAny_execs_nil (k B s.heap s.toks _ _ (Le.refl _) H ⟨m, led, rfl, h⟩)
theorem Xs.cons {st : Stmt} {rest : List Stmt} (h : X1 prog w h₀ A env m led st (fun m' led' => Xs prog w h₀ A env m' led' rest Qn Qr) Qr) : Xs prog w h₀ A env m led (st :: rest) Qn Qr := fun B s K H k => by
  refine wpAny_execs_cons (h B s _ H ?_)
  rintro B1 h1 tk1 l f le1 H1 p
  cases f with
  | next =>
    obtain ⟨m', led', rfl, q⟩ := p
    exact q B1 _ _ H1 fun B2 h2 tk2 l r le2 H2 p => k B2 h2 tk2 l r (le1.trans le2) H2 p
  | ret v => exact k B1 h1 tk1 l _ le1 H1 p
  | _ => exact p.elim
theorem X1.ret {e : Expr} {pos} (h : E1 prog w h₀ A env m led e Qr) : X1 prog w h₀ A env m led (.Return (some e) pos) Qn Qr := fun B s K H k =>
  wpAny_Return_some (h B s _ H fun B1 h1 tk1 _ v le1 H1 ⟨x, led1, e, rv, q⟩ => k B1 h1 tk1 _ _ le1 H1 ⟨x, m, led1, e, rv, q⟩)
theorem X1.ret0 {pos} (h : Qr led .none) : X1 prog w h₀ A env m led (.Return .none pos) Qn Qr := fun B s K H k => wpAny_Return_none (k B s.heap s.toks _ _ (Le.refl _) H ⟨.none, m, led, rfl, .none, h⟩)
theorem X1.if {t : Expr} {body orelse : List Stmt} {pos} (h : T1 prog w h₀ A env m led t (fun l c => (c = true → Xs prog w h₀ A env m l body Qn Qr) ∧ (c = false → Xs prog w h₀ A env m l orelse Qn Qr))) : X1 prog w h₀ A env m led (.If t body orelse pos) Qn Qr := fun B s K H k => by
  refine wpAny_If (T1.use h H fun B1 h1 tk1 c led1 le1 H1 q => ?_)
  cases c with
  | true => exact (q.1 rfl) B1 _ _ H1 fun B2 h2 tk2 l r le2 H2 p => k B2 h2 tk2 l r (le1.trans le2) H2 p
  | false => exact (q.2 rfl) B1 _ _ H1 fun B2 h2 tk2 l r le2 H2 p => k B2 h2 tk2 l r (le1.trans le2) H2 p

/-- a name is stored -/
theorem store_loc {B : Fz} {x : Str} {v : Value} {y : MV} {s : Shared} {K : Unit → Shared → Prop} (hk : env.scope.kind = .function) (hl : env.kindOf x = some .local) (H : Hp h₀ B s.heap (fled env m led)) (rv : VR B v y)
    (k : ∀ h' tk, Hp h₀ B h' (fled env ((x, y) :: m) led) → K () { s with heap := h', toks := tk }) : wpAny (model prog w) A (storeName env x v) K NoE s := by
  obtain ⟨f, hn, hr⟩ := H.ns
  refine wpAny_storeName_local hl hn (fun h' hn' hs => k h' _ ?_) (by rw [hk]; rfl)
  refine Hp.turn (pre := []) H (fun b o hb e => (hs.2 b hb).trans e) ⟨_, hn', fun z u e => ?_⟩
  rw [List.lookup_cons] at e
  by_cases hz : z = x
  · subst hz
    simp only [beq_self_eq_true] at e
    cases e
    exact ⟨v, by simp, rv⟩
  · rw [beq_eq_false_iff_ne.mpr hz] at e
    obtain ⟨v', e', r'⟩ := hr z u e
    exact ⟨v', by simp [hz, e'], r'⟩
theorem store_cell {B : Fz} {x : Str} {v : Value} {y : MV} {c : Addr} {o : Option MV} {pre post : Led} {s : Shared} {K : Unit → Shared → Prop} (hk : env.scope.kind = .function) (hl : env.kindOf x = some .cell) (hc : env.cells.lookup x = some c)
    (H : Hp h₀ B s.heap (fled env m (pre ++ (c, .cell o) :: post))) (rv : VR B v y)
    (k : ∀ h' tk, Hp h₀ B h' (fled env m (pre ++ (c, .cell (some y)) :: post)) → K () { s with heap := h', toks := tk }) : wpAny (model prog w) A (storeName env x v) K NoE s := by
  have hx : ∃ v₀, s.heap.IsCell c v₀ := by
    have := (H.own (c, .cell o) (by simp)).2
    cases o with
    | none => exact ⟨_, this⟩
    | some y => obtain ⟨v, q, _⟩ := this; exact ⟨_, q⟩
  obtain ⟨v₀, hv⟩ := hx
  refine wpAny_storeName_cell hk hl hc hv fun h' hc' hs => k h' s.toks ?_
  exact Hp.turn (pre := (env.locals, .ns m) :: pre) H (fun b o hb e => (hs.2 b hb).trans e) ⟨v, hc', rv⟩

theorem X1.assign {x : Str} {p' e pos} (hk : env.scope.kind = .function) (hl : env.kindOf x = some .local) (h : E1 prog w h₀ A env m led e (fun l y => Qn ((x, y) :: m) l))
    (hs : swapsWith e (some (.Name x p')) pos.line env = Pure.pure false := by rfl) : X1 prog w h₀ A env m led (.Assign [.Name x p'] e pos) Qn Qr := fun B s K H k => by
  refine wpAny_Assign_Name (E1.use h H fun B1 h1 tk1 v y led1 le1 H1 rv q => ?_) hs
  exact store_loc hk hl H1 rv fun h' tk H' => k B1 h' tk _ _ le1 H' ⟨_, led1, rfl, q⟩
theorem X1.assignC {x : Str} {p' e pos} {c : Addr} (hk : env.scope.kind = .function) (hl : env.kindOf x = some .cell) (hc : env.cells.lookup x = some c)
    (h : E1 prog w h₀ A env m led e (fun l y => ∃ o pre post, l = pre ++ (c, .cell o) :: post ∧ Qn m (pre ++ (c, .cell (some y)) :: post)))
    (hs : swapsWith e (some (.Name x p')) pos.line env = Pure.pure false := by rfl) : X1 prog w h₀ A env m led (.Assign [.Name x p'] e pos) Qn Qr := fun B s K H k => by
  refine wpAny_Assign_Name (E1.use h H fun B1 h1 tk1 v y led1 le1 H1 rv qX => ?_) hs
  obtain ⟨o, pre, post, rfl, q⟩ := qX
  exact store_cell hk hl hc H1 rv fun h' tk H' => k B1 h' tk _ _ le1 H' ⟨_, _, rfl, q⟩
/-- what is known of the names may be forgotten in part -/
theorem Hp.vars {B : Fz} {h : Heap} {a : Addr} {m m' : Vars} {led : Led} (H : Hp h₀ B h ((a, .ns m) :: led)) (hs : ∀ x y, m'.lookup x = some y → m.lookup x = some y) : Hp h₀ B h ((a, .ns m') :: led) := by
  obtain ⟨f, hn, hr⟩ := H.ns
  refine Hp.turn (pre := []) (c := .ns m) H (fun _ _ _ e => e) ⟨f, hn, fun x y e => hr x y (hs x y e)⟩
theorem Xs.weak {st : List Stmt} {m' : Vars} {led' : Led} (hs : ∀ x y, m'.lookup x = some y → m.lookup x = some y) (hl : led'.Sublist led) (h : Xs prog w h₀ A env m' led' st Qn Qr) : Xs prog w h₀ A env m led st Qn Qr :=
  fun B s K H k => h B s K ((H.vars hs).sub (hl.cons_cons _)) k
end
end Yy

end

section
set_option maxRecDepth 100000
namespace Yy
open PySem PySem.W PySem.Calls PyProof.Rows

section
variable {prog : Program} {w : World} {h₀ : Heap}
variable {A : Around} {env : Env} {m : Vars} {led : Led} {Q : Led → MV → Prop} {QT : Led → Bool → Prop} {Qn : Vars → Led → Prop} {Qr : Led → MV → Prop}

inductive VRk (B : Fz) : List (Str × Value) → Vars → Prop
  | nil : VRk B [] []
  | cons {n v x r r'} : VR B v x → VRk B r r' → VRk B ((n, v) :: r) ((n, x) :: r')

theorem VRk.nil_ {B : Fz} {ks : List (Str × Value)} (r : VRk B ks []) : ks = [] := by cases r; rfl
theorem VRk.one_ {B : Fz} {ks : List (Str × Value)} {n : Str} {x : MV} (r : VRk B ks [(n, x)]) : ∃ v, ks = [(n, v)] ∧ VR B v x := by
  cases r with | cons a b => cases b; exact ⟨_, rfl, a⟩

/-- what is called is a def, a built-in or a built-in type -/
noncomputable def IsFn (h₀ : Heap) (led : Led) : MV → Prop
  | .bi _ => True
  | .ty _ => True
  | .obj a => (∃ oc od fd sl, h₀.get? a = some ⟨oc, od, .func fd, sl⟩) ∨ (∃ oc od fd sl, (a, LC.prd (· = ⟨oc, od, .func fd, sl⟩)) ∈ led)
  | _ => False

/-- a call, from led on, ends in Q -/
noncomputable def Cl (prog : Program) (w : World) (h₀ : Heap) (A : Around) (led : Led) (f : MV) (args : List MV) (kw : Vars) (Q : Led → MV → Prop) : Prop :=
  IsFn h₀ led f ∧ ∀ B fv vs ks, VR B fv f → VRs B vs args → VRk B ks kw → Tr prog w h₀ B A led (PySem.call fv vs ks) (VP Q)
theorem Cl.mono {f args kw} {Q Q' : Led → MV → Prop} (h : Cl prog w h₀ A led f args kw Q) (k : ∀ l x, Q l x → Q' l x) : Cl prog w h₀ A led f args kw Q' :=
  ⟨h.1, fun B fv vs ks a b c => (h.2 B fv vs ks a b c).mono fun _ _ _ _ p => p.mono fun x q => k _ x q⟩

theorem Cl.bi1 {i : String} {x : MV} (h : ∀ B v s (K : Value → Shared → Prop), VR B v x → Hp h₀ B s.heap led → (∀ B' h' tk led' r, Le B B' → Hp h₀ B' h' led' → VP Q B' led' r → K r { s with heap := h', toks := tk }) → wpAny (model prog w) A (PySem.call (.builtin i) [v]) K NoE s) : Cl prog w h₀ A led (.bi i) [x] [] Q :=
  ⟨trivial, fun B fv vs ks rf rs rk s K H k => by
    obtain rfl := rf.bi_
    obtain rfl := rk.nil_
    obtain ⟨v, rfl, r⟩ := rs.one_
    exact h B v s K r H k⟩
theorem Cl.bi2 {i : String} {x y : MV} (h : ∀ B v u s (K : Value → Shared → Prop), VR B v x → VR B u y → Hp h₀ B s.heap led → (∀ B' h' tk led' r, Le B B' → Hp h₀ B' h' led' → VP Q B' led' r → K r { s with heap := h', toks := tk }) → wpAny (model prog w) A (PySem.call (.builtin i) [v, u]) K NoE s) : Cl prog w h₀ A led (.bi i) [x, y] [] Q :=
  ⟨trivial, fun B fv vs ks rf rs rk s K H k => by
    obtain rfl := rf.bi_
    obtain rfl := rk.nil_
    obtain ⟨v, u, rfl, r, r2⟩ := rs.two_
    exact h B v u s K r r2 H k⟩
theorem Cl.bi3 {i : String} {x y z : MV} (h : ∀ B v u q s (K : Value → Shared → Prop), VR B v x → VR B u y → VR B q z → Hp h₀ B s.heap led → (∀ B' h' tk led' r, Le B B' → Hp h₀ B' h' led' → VP Q B' led' r → K r { s with heap := h', toks := tk }) → wpAny (model prog w) A (PySem.call (.builtin i) [v, u, q]) K NoE s) : Cl prog w h₀ A led (.bi i) [x, y, z] [] Q :=
  ⟨trivial, fun B fv vs ks rf rs rk s K H k => by
    obtain rfl := rf.bi_
    obtain rfl := rk.nil_
    obtain ⟨v, u, q, rfl, r, r2, r3⟩ := rs.three_
    exact h B v u q s K r r2 r3 H k⟩
theorem Cl.ty1 {i : String} {x : MV} (h : ∀ B v s (K : Value → Shared → Prop), VR B v x → Hp h₀ B s.heap led → (∀ B' h' tk led' r, Le B B' → Hp h₀ B' h' led' → VP Q B' led' r → K r { s with heap := h', toks := tk }) → wpAny (model prog w) A (PySem.call (.type i) [v]) K NoE s) : Cl prog w h₀ A led (.ty i) [x] [] Q :=
  ⟨trivial, fun B fv vs ks rf rs rk s K H k => by
    obtain rfl := rf.ty_
    obtain rfl := rk.nil_
    obtain ⟨v, rfl, r⟩ := rs.one_
    exact h B v s K r H k⟩
theorem Cl.ty3 {i : String} {x y z : MV} (h : ∀ B v u q s (K : Value → Shared → Prop), VR B v x → VR B u y → VR B q z → Hp h₀ B s.heap led → (∀ B' h' tk led' r, Le B B' → Hp h₀ B' h' led' → VP Q B' led' r → K r { s with heap := h', toks := tk }) → wpAny (model prog w) A (PySem.call (.type i) [v, u, q]) K NoE s) : Cl prog w h₀ A led (.ty i) [x, y, z] [] Q :=
  ⟨trivial, fun B fv vs ks rf rs rk s K H k => by
    obtain rfl := rf.ty_
    obtain rfl := rk.nil_
    obtain ⟨v, u, q, rfl, r, r2, r3⟩ := rs.three_
    exact h B v u q s K r r2 r3 H k⟩

/-- several expressions from the left -/
noncomputable def Es (prog : Program) (w : World) (h₀ : Heap) (A : Around) (env : Env) (m : Vars) : Led → List Expr → (Led → List MV → Prop) → Prop
  | led, [], Q => Q led []
  | led, e :: es, Q => E1 prog w h₀ A env m led e fun l x => Es prog w h₀ A env m l es fun l' xs => Q l' (x :: xs)

theorem Es.sound : ∀ {es : List Expr} {led : Led} {Q : Led → List MV → Prop}, Es prog w h₀ A env m led es Q → ∀ B, Tr prog w h₀ B A (fled env m led) (spliced (es.map fun e => (false, eval e env))) (SP env m Q)
  | [], led, Q, h, B => fun s K H k => spliced_nil (k B s.heap s.toks _ _ (Le.refl _) H ⟨[], led, rfl, .nil, h⟩)
  | e :: es, led, Q, h, B => fun s K H k => by
    refine spliced_cons (E1.use h H fun B1 h1 tk1 v x led1 le1 H1 rv q => ?_)
    refine Es.sound q B1 _ _ H1 ?_
    rintro B2 h2 tk2 _ vs le2 H2 ⟨xs, led2, rfl, rs, q2⟩
    exact k B2 h2 tk2 _ _ (le1.trans le2) H2 ⟨x :: xs, led2, rfl, .cons (rv.mono le2) rs, q2⟩

theorem backTo_plain (pos : Pos) (es : List Expr) (env : Env) : backTo pos (es.map fun e => (false, eval e env)) = es.map fun e => (false, eval e env) := by
  unfold backTo
  rw [List.map_map]
  exact List.map_congr_left fun e _ => by simp

/-- the keeper of what is called -/
theorem keeper_of {B : Fz} {f : MV} {fv : Value} (hf : IsFn h₀ led f) (r : VR B fv f) {s : Shared} (H : Hp h₀ B s.heap led) : ∃ k, (k = Keeper.frame ∨ k = Keeper.machine ∨ k = Keeper.boundFrame) ∧ Looks (model prog w) s.heap (keeperOf fv) k := by
  cases r with
  | bi => exact ⟨.machine, .inr (.inl rfl), .now⟩
  | ty => exact ⟨.machine, .inr (.inl rfl), .now⟩
  | obj =>
    rcases hf with ⟨oc, od, fd, sl, e⟩ | ⟨oc, od, fd, sl, e⟩
    · exact ⟨.frame, .inl rfl, (Looks.ld (part := none) (H.keep _ _ (H.base _ _ e))).andThen .now⟩
    · obtain ⟨o, e', rfl⟩ := (H.own _ e).2
      exact ⟨.frame, .inl rfl, (Looks.ld (part := none) e').andThen .now⟩
  | _ => exact hf.elim

theorem noStar {β : Type} (es : List Expr) (g : Expr → β) (kw : List (Option Str × β)) (h : kw.any (·.1.isNone) = false) : ((es.map fun e => (false, g e)).any (·.1) || kw.any (·.1.isNone)) = false := by
  rw [h, Bool.or_false]
  induction es with
  | nil => rfl
  | cons e es ih => exact ih
theorem callWith_any {pos : Pos} {f : MV} {fv : Value} {first : List Value} {args : List (Bool × Sem Value)} {keywords : List (Option Str × Sem Value)} {B : Fz} {P : Fz → Led → Args → Prop} {Q : Fz → Led → Value → Prop}
    (rf : VR B fv f) (hplain : (args.any (·.1) || keywords.any (·.1.isNone)) = false)
    (ha : Tr prog w h₀ B A led (evalArgs fv true args keywords) P)
    (h : ∀ B' led' a, Le B B' → P B' led' a → IsFn h₀ led' f ∧ Tr prog w h₀ B' A led' (PySem.call fv (first ++ a.pos) a.kw) Q) : Tr prog w h₀ B A led (callWith pos fv first args keywords) Q := fun s K H k => by
  unfold callWith
  refine wpAny_bind (wpAny_holding (ha s _ H fun B1 h1 tk1 led1 a le1 H1 p => ?_))
  obtain ⟨hf, hc⟩ := h B1 led1 a le1 p
  obtain ⟨kp, hk', L⟩ := keeper_of (prog := prog) (w := w) hf (rf.mono le1) (s := { s with heap := h1, toks := tk1 }) H1
  refine wpAny_bind (wpAny_standAt ?_)
  simp only [hplain]
  refine wpAny_bind (L.here ?_)
  have fin : wpAny (model prog w) A (PySem.call fv (first ++ a.pos) a.kw) K NoE { s with heap := h1, toks := tk1 } := hc _ _ H1 fun B2 h2 tk2 l r le2 H2 p => k B2 h2 tk2 l r (le1.trans le2) H2 p
  have tail : ∀ {t : Sem Value}, wpAny (model prog w) A t K NoE { s with heap := h1, toks := tk1 } → wpAny (model prog w) A (t >>= fun r => holding [r] point >>= fun _ => Pure.pure r) K NoE { s with heap := h1, toks := tk1 } :=
    fun ht => wpAny_bind (wpAny_mono ht (fun r s₂ hr => wpAny_bind (wpAny_holding (wpAny_point (wpAny_pure hr)))) fun _ _ x => x)
  have marked (mk : Value) : wpAny (model prog w) A (callMarked mk fv (first ++ a.pos) a.kw) K NoE { s with heap := h1, toks := tk1 } := by unfold callMarked; exact Calls.wpAny_keep fin
  rcases hk' with rfl | rfl | rfl <;> dsimp only <;> first | exact tail fin | (split <;> first | exact tail fin | exact tail (marked _))

noncomputable def AP (env : Env) (m : Vars) (Q : Led → List MV → Prop) : Fz → Led → Args → Prop := fun B led a => a.kw = [] ∧ ∃ xs led1, led = fled env m led1 ∧ VRs B a.pos xs ∧ Q led1 xs
theorem evalArgs_Es {B : Fz} {fv : Value} {es : List Expr} {Q : Led → List MV → Prop} (h : Es prog w h₀ A env m led es Q) : Tr prog w h₀ B A (fled env m led) (evalArgs fv true (es.map fun e => (false, eval e env)) []) (AP env m Q) := fun s K H k => by
  cases es with
  | nil => exact evalArgs_nil3 (k B s.heap s.toks _ _ (Le.refl _) H ⟨rfl, [], led, rfl, .nil, h⟩)
  | cons e es =>
    refine evalArgs_plain (Es.sound h B s _ H ?_)
    rintro B1 h1 tk1 _ vs le1 H1 ⟨xs, led1, rfl, rs, q⟩
    exact k B1 h1 tk1 _ _ le1 H1 ⟨rfl, xs, led1, rfl, rs, q⟩

/-- what a call leaves, seen from the frame -/
noncomputable def Ret (env : Env) (m : Vars) (Q : Led → MV → Prop) : Led → MV → Prop := fun l x => ∃ led1, l = fled env m led1 ∧ Q led1 x
theorem VP.ret {B led v} (h : VP (Ret env m Q) B led v) : EP env m Q B led v := let ⟨x, r, l, e, q⟩ := h; ⟨x, l, e, r, q⟩

theorem E1.call {x : Str} {np : Pos} {args : List Expr} {pos : Pos}
    (h : E1 prog w h₀ A env m led (.Name x np) (fun l f => Es prog w h₀ A env m l args (fun l' xs => Cl prog w h₀ A (fled env m l') f xs [] (Ret env m Q))))
    (hs : starEach args env = args.map fun e => (false, eval e env) := by rfl) : E1 prog w h₀ A env m led (.Call (.Name x np) args [] pos) Q := fun B s K H k => by
  refine wpAny_Call_Name_kw (E1.use h H fun B1 h1 tk1 fv f led1 le1 H1 rf q => ?_)
  rw [hs, backTo_plain]
  refine callWith_any (P := AP env m _) (Q := EP env m Q) rf (noStar _ _ _ rfl) (evalArgs_Es q) ?_ _ _ H1 fun B2 h2 tk2 l r le2 H2 p => k B2 h2 tk2 l r (le1.trans le2) H2 p
  rintro B2 led2 a le2 ⟨hk, xs, led3, rfl, rs, hc⟩
  refine ⟨hc.1, (?_ : Tr prog w h₀ B2 A _ (PySem.call fv ([] ++ a.pos) a.kw) _)⟩
  rw [hk]
  exact (hc.2 B2 fv _ [] (rf.mono le2) rs .nil).mono fun _ _ _ _ p => p.ret

/-- a call with one keyword -/
theorem E1.callk {x n : Str} {np : Pos} {e : Expr} {args : List Expr} {kv : Expr} {kp pos : Pos}
    (h : E1 prog w h₀ A env m led (.Name x np) (fun l f => Es prog w h₀ A env m l (e :: args) (fun l' xs => E1 prog w h₀ A env m l' kv (fun l'' y => Cl prog w h₀ A (fled env m l'') f xs [(n, y)] (Ret env m Q)))))
    (hs : starEach (e :: args) env = (e :: args).map fun e => (false, eval e env) := by rfl) : E1 prog w h₀ A env m led (.Call (.Name x np) (e :: args) [⟨some n, kv, kp⟩] pos) Q := fun B s K H k => by
  refine wpAny_Call_Name_kw (E1.use h H fun B1 h1 tk1 fv f led1 le1 H1 rf q => ?_)
  rw [hs, backTo_plain]
  let P : Fz → Led → Args → Prop := fun B led a => ∃ xs y led1 v, a.kw = [(n, v)] ∧ led = fled env m led1 ∧ VRs B a.pos xs ∧ VR B v y ∧ Cl prog w h₀ A (fled env m led1) f xs [(n, y)] (Ret env m Q)
  refine callWith_any (P := P) (Q := EP env m Q) rf (noStar _ _ _ rfl) ?_ ?_ _ _ H1 fun B2 h2 tk2 l r le2 H2 p => k B2 h2 tk2 l r (le1.trans le2) H2 p
  · intro s K H k
    refine evalArgs_kw rfl (Es.sound q B1 s _ H ?_)
    rintro B2 h2 tk2 _ vs le2 H2 ⟨xs, led2, rfl, rs, q2⟩
    show wpAny (model prog w) A (evalAll [do let v ← eval kv env; standAt pos; Pure.pure v]) _ _ _
    refine wpAny_evalAll_cons (wpAny_bind (E1.use q2 H2 fun B3 h3 tk3 v y led3 le3 H3 rv q3 => ?_))
    refine wpAny_bind (wpAny_standAt (wpAny_pure (wpAny_evalAll_nil ?_)))
    exact k B3 h3 tk3 _ _ (le2.trans le3) H3 ⟨xs, y, led3, v, rfl, rfl, rs.mono le3, rv, q3⟩
  · rintro B2 led2 a le2 ⟨xs, y, led3, v, hk, rfl, rs, rv, hc⟩
    refine ⟨hc.1, (?_ : Tr prog w h₀ B2 A _ (PySem.call fv ([] ++ a.pos) a.kw) _)⟩
    rw [hk]
    exact (hc.2 B2 fv _ _ (rf.mono le2) rs (.cons rv .nil)).mono fun _ _ _ _ p => p.ret

/-! ### methods -/
/-- the built-in type of a value -/
noncomputable def TyOf (h₀ : Heap) (led : Led) (x : MV) (T : String) : Prop := match x with
  | .int _ => T = "int"
  | .str _ => T = "str"
  | .tup _ => T = "tuple"
  | .lst _ => T = "list"
  | .obj a => (∃ xs, (a, LC.list xs) ∈ led ∧ T = "list") ∨ (∃ dt sl, h₀.get? a = some ⟨.type T, none, dt, sl⟩)
  | _ => False
theorem TyOf.sound {B : Fz} {v : Value} {x : MV} {T : String} {s : Shared} (h : TyOf h₀ led x T) (r : VR B v x) (H : Hp h₀ B s.heap led) : s.TypeIs v T ∧ ∀ a, v = .ref a → ∃ ob, s.heap.get? a = some ob ∧ ob.dict = none := by
  unfold TyOf at h
  cases r with
  | int => subst h; exact ⟨typeIs_int _ _ _, fun _ e => nomatch e⟩
  | str => subst h; exact ⟨typeIs_str _ _ _, fun _ e => nomatch e⟩
  | tup e r => subst h; exact ⟨⟨_, H.keep _ _ e, rfl⟩, fun b q => by cases q; exact ⟨_, H.keep _ _ e, rfl⟩⟩
  | lst e r => subst h; exact ⟨⟨_, H.keep _ _ e, rfl⟩, fun b q => by cases q; exact ⟨_, H.keep _ _ e, rfl⟩⟩
  | obj =>
    rcases h with ⟨xs, e, rfl⟩ | ⟨dt, sl, e⟩
    · obtain ⟨l, n, e', _⟩ := (H.own _ e).2
      exact ⟨⟨_, e', rfl⟩, fun b q => by cases q; exact ⟨_, e', rfl⟩⟩
    · exact ⟨⟨_, H.keep _ _ (H.base _ _ e), rfl⟩, fun b q => by cases q; exact ⟨_, H.keep _ _ (H.base _ _ e), rfl⟩⟩
  | _ => exact h.elim

structure MethS (T : String) (name : Str) (id : String) : Prop where
  plain : PlainAttrs T
  slot : Slot T name id
  ty : typeOf (.builtin id) = Pure.pure (.type "method_descriptor")

/-- a method of a built-in type -/
theorem E1.meth {o : Expr} {name : Str} {apos pos : Pos} {args : List Expr} {T id : String} (M : MethS T name id)
    (h : E1 prog w h₀ A env m led o (fun l ov => TyOf h₀ (fled env m l) ov T ∧ Es prog w h₀ A env m l args (fun l' xs => Cl prog w h₀ A (fled env m l') (.bi id) (ov :: xs) [] (Ret env m Q))))
    (hs : starEach args env = args.map fun e => (false, eval e env) := by rfl) (hb : attributeBase o name env (eval o env) = eval o env := by rfl) (hl : (apos.endLine == pos.line) = true := by rfl) (hn : args.length < 20 := by decide) :
    E1 prog w h₀ A env m led (.Call (.Attribute o name apos) args [] pos) Q := fun B s K H k => by
  refine wpAny_Call_method_lateS hb ?_ hl (h B s _ H ?_)
  · rw [hs, backTo_plain]
    have h1 : (args.map fun e => (false, eval e env)).all (fun a => !a.1) = true := by
      clear hs hn h
      induction args with
      | nil => rfl
      | cons e es ih => exact ih
    rw [h1]
    show (true && true && decide (args.length + 0 + 0 < 30)) = true
    rw [Bool.true_and, Bool.true_and]
    exact decide_eq_true (Nat.lt_trans hn (by decide))
  · rintro B1 h1 tk1 _ v le1 H1 ⟨x, led1, rfl, rv, ht, q⟩
    obtain ⟨t1, t2⟩ := ht.sound rv (s := { s with heap := h1, toks := tk1 }) H1
    refine ⟨T, id, M.plain, M.slot, M.ty, t1, t2, ?_⟩
    rw [hs, backTo_plain]
    refine callWith_any (f := .bi id) (P := AP env m _) (Q := EP env m Q) .bi (by simp) (evalArgs_Es q) ?_ _ _ H1 fun B2 h2 tk2 l r le2 H2 p => k B2 h2 tk2 l r (le1.trans le2) H2 p
    rintro B2 led2 a le2 ⟨hk, xs, led3, rfl, rs, hc⟩
    refine ⟨trivial, (?_ : Tr prog w h₀ B2 A _ (PySem.call (.builtin id) ([v] ++ a.pos) a.kw) _)⟩
    rw [hk]
    exact (hc.2 B2 _ _ [] .bi (.cons (rv.mono le2) rs) .nil).mono fun _ _ _ _ p => p.ret

/-- a call for its effect: it hands back None -/
theorem X1.expr {e : Expr} {pos : Pos} (h : E1 prog w h₀ A env m led e (fun l x => x = .none ∧ Qn m l)) (hi : interactive env = false := by rfl) (hs : swapsWith e none pos.line env = Pure.pure false := by rfl) :
    X1 prog w h₀ A env m led (.Expr e pos) Qn Qr := fun B s K H k => by
  refine wpAny_Expr (E1.use h H fun B1 h1 tk1 v x led1 le1 H1 rv qX => ?_) hi hs
  obtain ⟨rfl, q⟩ := qX
  cases rv
  exact k B1 h1 tk1 _ _ le1 H1 ⟨m, led1, rfl, q⟩

/-! ### a def is called -/
theorem Hp.tail {B : Fz} {h : Heap} {p} (H : Hp h₀ B h (p :: led)) : Hp h₀ B h led := H.sub (List.sublist_cons_self _ _)

/-- how the arguments are bound -/
noncomputable def Binds (h₀ : Heap) (fd : FuncData) (args : List MV) (kw : Vars) (binds : Vars) : Prop :=
  ∀ B s vs ks, Le h₀.get? s.heap.get? → VRs B vs args → VRk B ks kw → ∃ bv, BindsTo s fd ⟨vs, ks⟩ bv ∧ VRk B bv binds

theorem VRk.lookup {B : Fz} {bv : List (Str × Value)} {bs : Vars} (r : VRk B bv bs) (x : Str) (y : MV) (e : bs.lookup x = some y) : ∃ v, bv.lookup x = some v ∧ VR B v y := by
  induction r with
  | nil => cases e
  | @cons n v z r r' a rs ih =>
    rw [List.lookup_cons] at e ⊢
    cases hb : x == n with
    | true => rw [hb] at e; cases e; exact ⟨v, rfl, a⟩
    | false => rw [hb] at e; exact ih e
theorem VRk.append {B : Fz} {a a' : List (Str × Value)} {b b' : Vars} (r : VRk B a b) (h : VRk B a' b') : VRk B (a ++ a') (b ++ b') :=
  VRk.rec (motive := fun a b _ => VRk B (a ++ a') (b ++ b')) h (fun r _ i => .cons r i) r
theorem VRk.reverse {B : Fz} {a : List (Str × Value)} {b : Vars} (r : VRk B a b) : VRk B a.reverse b.reverse :=
  VRk.rec (motive := fun a b _ => VRk B a.reverse b.reverse) .nil (fun r _ i => by rw [List.reverse_cons, List.reverse_cons]; exact i.append (.cons r .nil)) r
theorem VRk.names {B : Fz} {a : List (Str × Value)} {b : Vars} (r : VRk B a b) : a.map (·.1) = b.map (·.1) :=
  VRk.rec (motive := fun a b _ => a.map (·.1) = b.map (·.1)) rfl (fun _ _ i => congrArg (_ :: ·) i) r

theorem Hp.nolimit {B : Fz} {h : Heap} (hn : h₀.NoLimit) (H : Hp h₀ B h led) : h.NoLimit := hn.keeps (H.base.trans H.keep)

theorem fnAt {f : Addr} {o : Obj} {B : Fz} {h : Heap} (hf : h₀.get? f = some o ∨ (f, LC.prd (· = o)) ∈ led) (H : Hp h₀ B h led) : h.get? f = some o := by
  rcases hf with e | e
  · exact H.keep _ _ (H.base _ _ e)
  · obtain ⟨o', e', rfl⟩ := (H.own _ e).2; exact e'
theorem fnIs {f : Addr} {oc : Value} {od : Option Addr} {fd : FuncData} {sl : Array (Option Value)} (hf : h₀.get? f = some ⟨oc, od, .func fd, sl⟩ ∨ (f, LC.prd (· = ⟨oc, od, .func fd, sl⟩)) ∈ led) : IsFn h₀ led (.obj f) :=
  hf.imp (fun e => ⟨_, _, _, _, e⟩) fun e => ⟨_, _, _, _, e⟩

/-- the code's name stands where it is looked for -/
noncomputable def CodeAt (h₀ : Heap) (led : Led) (cd : Value) (q : Str) : Prop := h₀.CodeRec cd q ∨ ∃ c o vs t, cd = .ref c ∧ (c, LC.prd (· = o)) ∈ led ∧ o.data = .fields vs ∧ vs[1]? = some (.str q t)
theorem CodeAt.sound {cd : Value} {q : Str} {B : Fz} {h : Heap} (hc : CodeAt h₀ led cd q) (H : Hp h₀ B h led) : h.CodeRec cd q := by
  rcases hc with e | ⟨c, o, vs, t, rfl, e, hd, hv⟩
  · exact e.keeps (H.base.trans H.keep)
  · obtain ⟨o', e', rfl⟩ := (H.own _ e).2
    exact ⟨c, o', vs, t, rfl, e', hd, hv⟩

theorem Cl.def {f : Addr} {oc : Value} {od : Option Addr} {name qual : Str} {params : Arguments} {body : List Stmt} {scope : Scope} {cl : List (Str × Addr)} {dV kV doc pm : Value} {an : Option Addr} {cdv ct : Value} {sl : Array (Option Value)} {args : List MV} {kw binds : Vars} {d : Nat} (hn : h₀.NoLimit)
    (hf : h₀.get? f = some ⟨oc, od, .func (fnX name qual params body scope cl dV kV doc pm an cdv ct), sl⟩ ∨ (f, LC.prd (· = ⟨oc, od, .func (fnX name qual params body scope cl dV kV doc pm an cdv ct), sl⟩)) ∈ led) (hcd : CodeAt h₀ led cdv qual) (hr : Rm A (d + 1))
    (hbind : Binds h₀ (fnX name qual params body scope cl dV kV doc pm an cdv ct) args kw binds)
    (h : ∀ L A', Rm A' d → Xs prog w h₀ A' (envX qual scope L f cdv cl) binds.reverse led body (fun _ l => Q l .none) Q)
    (hcell : (scope.names.all fun x => x.2 != .cell) = true := by rfl) (hloc : (binds.all fun x => decide (scope.names.lookup x.1 = some .local)) = true := by rfl)
    (hco : scope.isCoroutine = false := by rfl) (hgen : scope.isGenerator = false := by rfl) (hk : scope.kind = .function := by rfl) : Cl prog w h₀ A led (.obj f) args kw Q := by
  refine ⟨fnIs hf, fun B fv vs ks rf rs rk s K H k => ?_⟩
  cases rf
  obtain ⟨bv, hb, rb⟩ := hbind B s vs ks (H.base.trans H.keep) rs rk
  refine wpAny_call (codeAny_call_def (fd := fnX name qual params body scope cl dV kV doc pm an cdv ct) (body := body) (binds := bv) hr.lt (fnAt hf H) rfl (H.nolimit hn) (hcd.sound H) rfl hb ?_ ?_ (fun h₁ hns hk₁ => ?_) hco hgen hk)
  · intro x hx q
    have := List.all_eq_true.mp hcell x hx
    rw [q] at this; exact absurd this (by decide)
  · intro x hx
    have hx' : x.1 ∈ binds.map (·.1) := rb.names ▸ List.mem_map_of_mem hx
    obtain ⟨y, hy, e⟩ := List.mem_map.mp hx'
    rw [← e]
    exact of_decide_eq_true (List.all_eq_true.mp hloc y hy)
  · have H1 : Hp h₀ B h₁ (fled (envX qual scope s.heap.objs.size f cdv cl) binds.reverse led) := by
      refine Hp.new H (fresh_none _) hk₁ ⟨_, hns, fun x y e => ?_⟩
      obtain ⟨v, e', r⟩ := rb.reverse.lookup x y e
      exact ⟨v, e', r⟩
    have hr' : Rm (A.deeper (envX qual scope s.heap.objs.size f cdv cl)) d := ⟨hr.handled, hr.in3.1, hr.in3.2⟩
    refine wpAny_mono (h s.heap.objs.size _ hr' B _ (fun fl s' => (match fl with | .ret v => K v s' | .next => K .none s' | _ => False)) H1 ?_) (fun fl s' q => ?_) fun _ _ q => q.elim
    · rintro B2 h2 tk2 l fl le2 H2 p
      cases fl with
      | next => obtain ⟨m', l', rfl, q⟩ := p; exact k B2 h2 tk2 l' _ le2 H2.tail ⟨.none, .none, q⟩
      | ret v => obtain ⟨x, m', l', rfl, rv, q⟩ := p; exact k B2 h2 tk2 l' _ le2 H2.tail ⟨x, rv, q⟩
      | _ => exact p.elim
    · cases fl with
      | next => exact q
      | ret v => exact q
      | _ => exact q.elim

theorem VRs.zip {B : Fz} : ∀ {names : List Str} {vs xs}, VRs B vs xs → VRk B (names.zip vs) (names.zip xs)
  | [], _, _, _ => .nil
  | _ :: _, _, _, .nil => .nil
  | _ :: _, _, _, .cons r rs => .cons r rs.zip
/-- arguments by place, none left out -/
theorem Binds.of_eq {fd : FuncData} {args : List MV} (names : List Str)
    (h : ∀ vs : List Value, vs.length = args.length → bindArgs fd ⟨vs, []⟩ = Pure.pure (names.zip vs)) : Binds h₀ fd args [] (names.zip args) := fun B s vs ks _ rs rk => by
  cases rk
  exact ⟨names.zip vs, BindsTo.of_eq (h vs rs.length), rs.zip⟩
theorem cons_of {vs : List Value} {n : Nat} (e : vs.length = n + 1) : ∃ a r, vs = a :: r ∧ r.length = n := by
  cases vs with
  | nil => cases e
  | cons a r => exact ⟨a, r, rfl, Nat.succ.inj e⟩
theorem all1 {P : List Value → Prop} {n : Nat} (hn : n = 1) (h : ∀ a, P [a]) (vs : List Value) (e : vs.length = n) : P vs := by
  subst hn
  obtain ⟨a, v0, rfl, q0⟩ := cons_of e
  obtain rfl := List.length_eq_zero_iff.mp q0
  exact h a
theorem all2 {P : List Value → Prop} {n : Nat} (hn : n = 2) (h : ∀ a b, P [a, b]) (vs : List Value) (e : vs.length = n) : P vs := by
  subst hn
  obtain ⟨a, v0, rfl, q0⟩ := cons_of e
  obtain ⟨b, v1, rfl, q1⟩ := cons_of q0
  obtain rfl := List.length_eq_zero_iff.mp q1
  exact h a b
theorem all3 {P : List Value → Prop} {n : Nat} (hn : n = 3) (h : ∀ a b c, P [a, b, c]) (vs : List Value) (e : vs.length = n) : P vs := by
  subst hn
  obtain ⟨a, v0, rfl, q0⟩ := cons_of e
  obtain ⟨b, v1, rfl, q1⟩ := cons_of q0
  obtain ⟨c, v2, rfl, q2⟩ := cons_of q1
  obtain rfl := List.length_eq_zero_iff.mp q2
  exact h a b c
theorem all6 {P : List Value → Prop} {n : Nat} (hn : n = 6) (h : ∀ a b c d e1 f, P [a, b, c, d, e1, f]) (vs : List Value) (e : vs.length = n) : P vs := by
  subst hn
  obtain ⟨a, v0, rfl, q0⟩ := cons_of e
  obtain ⟨b, v1, rfl, q1⟩ := cons_of q0
  obtain ⟨c, v2, rfl, q2⟩ := cons_of q1
  obtain ⟨d, v3, rfl, q3⟩ := cons_of q2
  obtain ⟨e1, v4, rfl, q4⟩ := cons_of q3
  obtain ⟨f, v5, rfl, q5⟩ := cons_of q4
  obtain rfl := List.length_eq_zero_iff.mp q5
  exact h a b c d e1 f
theorem codeOf {K : Frag} (X : K.In h₀) {cd : Value} {q : Str} (e : codeIn K cd q = true) : CodeAt h₀ led cd q := .inl (codeRec_of X e)
end
end Yy

end

section
set_option maxRecDepth 100000
namespace Yy
open PySem PySem.W PySem.Calls PyProof.Rows

section
variable {prog : Program} {w : World} {h₀ : Heap}
variable {A : Around} {env : Env} {m : Vars} {led : Led} {Q : Led → MV → Prop} {QT : Led → Bool → Prop} {Qn : Vars → Led → Prop} {Qr : Led → MV → Prop}

/-! ### new lists and tuples -/
/-- a new list: frozen, or met by its address -/
noncomputable def NewL (led : Led) (xs : List MV) (Q : Led → MV → Prop) : Prop := xs.length ≤ sizeLine ∧ (Q led (.lst xs) ∨ ∀ a, Q ((a, .list xs) :: led) (.obj a))
theorem NewL.frz {xs : List MV} (h : Q led (.lst xs)) (hz : xs.length ≤ sizeLine := by simp [sizeLine]) : NewL led xs Q := ⟨hz, .inl h⟩
theorem NewL.own {xs : List MV} (h : ∀ a, Q ((a, .list xs) :: led) (.obj a)) (hz : xs.length ≤ sizeLine := by simp [sizeLine]) : NewL led xs Q := ⟨hz, .inr h⟩

theorem swap2 {a b : Addr × LC} {l : Led} : (a :: b :: l).Perm (b :: a :: l) := List.Perm.swap _ _ _

theorem newL_sound {B : Fz} {l : List Value} {n : Nat} {xs : List MV} {s : Shared} {h' : Heap} {a : Addr} {K : Value → Shared → Prop} (h : NewL led xs Q) (H : Hp h₀ B s.heap (fled env m led)) (rs : VRs B l xs)
    (ha : s.heap.get? a = none) (e : ∀ b o, s.heap.get? b = some o → h'.get? b = some o) (hc : h'.get? a = some (lstO l n))
    (k : ∀ B' h' tk led' r, Le B B' → Hp h₀ B' h' led' → EP env m Q B' led' r → K r { s with heap := h', toks := tk }) (tk : Nat) : K (.ref a) { s with heap := h', toks := tk } := by
  rcases h.2 with q | q
  · obtain ⟨H1, le⟩ := H.frz (o := lstO l n) ha e hc
    exact k _ _ tk _ _ le H1 ⟨_, led, rfl, .lst addB_self (rs.mono le), q⟩
  · exact k B _ tk _ _ (Le.refl _) ((H.new (c := .list xs) ha e ⟨l, n, hc, rs⟩).perm swap2) ⟨_, _, rfl, .obj, q a⟩

theorem Es.mono : ∀ {es : List Expr} {led : Led} {P P' : Led → List MV → Prop}, (∀ l x, P l x → P' l x) → Es prog w h₀ A env m led es P → Es prog w h₀ A env m led es P'
  | [], _, _, _, hp, h => hp _ _ h
  | e :: es, _, _, _, hp, h => E1.mono h fun l x q => Es.mono (fun l' xs => hp l' (x :: xs)) q
theorem Es.len : ∀ {es : List Expr} {led : Led} {Q : Led → List MV → Prop}, Es prog w h₀ A env m led es Q → Es prog w h₀ A env m led es (fun l xs => xs.length = es.length ∧ Q l xs)
  | [], _, _, h => ⟨rfl, h⟩
  | e :: es, _, _, h => E1.mono h fun l x q => Es.mono (fun l' xs p => ⟨by simp [p.1], p.2⟩) (Es.len q)

theorem E1.list {es : List Expr} {pos} (h : Es prog w h₀ A env m led es (fun l xs => NewL l xs Q))
    (hs : starEach es env = es.map fun e => (false, eval e env) := by rfl) : E1 prog w h₀ A env m led (.List es pos) Q := fun B s K H k => by
  refine List_ ?_
  rw [hs, backTo_plain]
  refine Es.sound h B s _ H ?_
  rintro B1 h1 tk1 _ vs le1 H1 ⟨xs, led1, rfl, rs, q⟩
  refine wpAny_newList (newL_sound (n := 0) (s := { s with heap := h1, toks := tk1 }) q H1 rs (fresh_none _) (fun b o e => Heap.get?_push_of_some _ e) (Heap.get?_push_size _ rfl) (fun B2 h2 tk2 l r le2 H2 p => k B2 h2 tk2 l r (le1.trans le2) H2 p) tk1) ?_
  rw [rs.length]; exact q.1
theorem E1.tup {es : List Expr} {k0 pos} (h : Es prog w h₀ A env m led es (fun l xs => Q l (.tup xs))) (hn : es.length ≤ 1000 := by decide)
    (hs : starEach es env = es.map fun e => (false, eval e env) := by rfl) : E1 prog w h₀ A env m led (.Tuple es k0 pos) Q := fun B s K H k => by
  refine Tuple_ ?_
  rw [hs, backTo_plain]
  refine Es.sound h.len B s _ H ?_
  rintro B1 h1 tk1 _ vs le1 H1 ⟨xs, led1, rfl, rs, hl, q⟩
  refine wpAny_newTuple ?_ (by rw [rs.length, hl]; have : sizeLine = 2 ^ 24 := rfl; lia)
  obtain ⟨H2, le2⟩ := H1.frz (o := tupO vs 0) (fresh_none _) (fun b o e => Heap.get?_push_of_some _ e) (Heap.get?_push_size h1 (o := tupO vs 0) rfl)
  exact k _ _ tk1 _ _ (le1.trans le2) H2 ⟨_, led1, rfl, .tup addB_self (rs.mono le2), q⟩

theorem mulL_sound {B : Fz} {v nv : Value} {xs : List MV} {n : Int} {s : Shared} {K : Value → Shared → Prop} (rv : VR B v (.lst xs)) (rn : VR B nv (.int n)) (hn : n < 2 ^ 30) (hz : xs.length * n.toNat ≤ 2 ^ 24) (hlo : 0 ≤ n)
    (q : NewL led (List.replicate n.toNat xs).flatten Q) (H : Hp h₀ B s.heap (fled env m led))
    (k : ∀ B' h' tk led' r, Le B B' → Hp h₀ B' h' led' → EP env m Q B' led' r → K r { s with heap := h', toks := tk }) : wpAny (model prog w) A (binaryOp .Mult v nv) K NoE s := by
  cases rv with
  | lst e rs =>
    cases rn with
    | int =>
      rename_i a c l u
      have hl := H.keep _ _ e
      have hsz : l.toArray.size * n.toNat ≤ 2 ^ 24 := by rw [List.size_toArray, rs.length]; exact hz
      have e2 : (List.foldl (fun x1 x2 => x1 ++ x2) #[] (List.replicate (if l.toArray.isEmpty = true then 0 else n.toNat) l.toArray)) = ((List.replicate n.toNat l).flatten).toArray := by
        have e3 : ∀ (k : Nat) (acc : Array Value), List.foldl (fun x1 x2 => x1 ++ x2) acc (List.replicate k l.toArray) = acc ++ ((List.replicate k l).flatten).toArray := by
          intro k
          induction k with
          | zero => intro acc; simp
          | succ k ih => intro acc; rw [List.replicate_succ, List.foldl_cons, ih, List.replicate_succ, List.flatten_cons]; simp
        rw [e3]
        cases l with
        | nil => simp
        | cons x r => simp
      refine wpAny_binaryOp_repeat_ref (T := "list") (U := "int") (by decide) ⟨_, hl, rfl⟩ (fun s' => typeIs_int s' n u) noFill_list_mul F.fills_int_mul F.slot_int_rmul repeat_list F.slot_int_index.lookup
        (call_meets F.slot_int_rmul (typeIs_int s n u) F.entry_int_rmul (F.args_int_rmul_2 _ _) (int___rmul___int_list n u a l.toArray c)
          ⟨hl, rfl, ⟨_, hl, rfl⟩, call_meets F.slot_list_mul ⟨_, hl, rfl⟩ F.entry_list_mul (F.args_list_mul_2 _ _)
            (AutoListH.list___mul___list_int_3 a l.toArray c n u (by simp [Builtin.List.listFitsIndex]; lia) (by lia) (by simp only [Builtin.List.listTooLong, sizeLine]; simpa using hsz))
            ⟨hl, (?_ : K _ _)⟩⟩)
      rw [e2]
      have rr : ∀ k, VRs B (List.replicate k l).flatten (List.replicate k xs).flatten := by
        intro k
        induction k with
        | zero => simp; exact .nil
        | succ k ih => rw [List.replicate_succ, List.replicate_succ, List.flatten_cons, List.flatten_cons]; exact rs.append ih
      exact newL_sound (n := 0) q H (rr _) (fresh_none _) (fun b o e => Heap.get?_push_of_some _ e) (Heap.get?_push_size _ rfl) k s.toks
theorem E1.mulL {l r : Expr} {pos} (h : E1 prog w h₀ A env m led l (fun led1 x => ∃ xs, x = .lst xs ∧ E1 prog w h₀ A env m led1 r (fun led2 y => ∃ n, y = .int n ∧ (0 ≤ n ∧ n < 2 ^ 30 ∧ xs.length * n.toNat ≤ 2 ^ 24) ∧ NewL led2 (List.replicate n.toNat xs).flatten Q))) : E1 prog w h₀ A env m led (.BinOp l .Mult r pos) Q := fun B s K H k => by
  refine wpAny_BinOp (E1.use h H fun B1 h1 tk1 a x led1 le1 H1 ra qX => ?_)
  obtain ⟨xs, rfl, q⟩ := qX
  refine E1.use q H1 fun B2 h2 tk2 b y led2 le2 H2 rb qX => ?_
  obtain ⟨n, rfl, ⟨h0, hn, hz⟩, q2⟩ := qX
  exact mulL_sound (s := { s with heap := h2, toks := tk2 }) (ra.mono le2) rb hn hz h0 q2 H2 fun B3 h3 tk3 l3 r3 le3 H3 p => k B3 h3 tk3 l3 r3 ((le1.trans le2).trans le3) H3 p

theorem E1.addL {l r : Expr} {pos} (h : E1 prog w h₀ A env m led l (fun led1 x => ∃ xs, x = .lst xs ∧ E1 prog w h₀ A env m led1 r (fun led2 y => ∃ ys, y = .lst ys ∧ NewL led2 (xs ++ ys) Q))) : E1 prog w h₀ A env m led (.BinOp l .Add r pos) Q := fun B s K H k => by
  refine wpAny_BinOp (E1.use h H fun B1 h1 tk1 va x led1 le1 H1 ra qX => ?_)
  obtain ⟨xs, rfl, q⟩ := qX
  refine E1.use q H1 fun B2 h2 tk2 vb y led2 le2 H2 rb qX => ?_
  obtain ⟨ys, rfl, q2⟩ := qX
  cases ra with
  | lst e rs =>
    cases rb with
    | lst e' rs' =>
      rename_i a n l1 b n' l2
      have hl := H2.keep _ _ (le2 _ _ e)
      have hb := H2.keep _ _ e'
      have hsz : l1.toArray.size + l2.toArray.size ≤ sizeLine := by rw [List.size_toArray, List.size_toArray, rs.length, rs'.length, ← List.length_append]; exact q2.1
      refine concat_meets (T := "list") ⟨_, hl, rfl⟩ ⟨_, hb, rfl⟩ PySem.noFill_list_add PySem.seq_list_add F.slot_list_add F.entry_list_add (F.args_list_add_2 _ _) (AutoSeq1.list___add___list_list_0 a l1.toArray n b l2.toArray n' hsz) ⟨hl, hb, (?_ : K _ _)⟩
      have e3 : l1.toArray ++ l2.toArray = (l1 ++ l2).toArray := by simp
      rw [e3]
      exact newL_sound (n := 0) (s := { s with heap := h2, toks := tk2 }) q2 H2 ((rs.mono le2).append rs') (fresh_none _) (fun b o e => Heap.get?_push_of_some _ e) (Heap.get?_push_size _ rfl) (fun B3 h3 tk3 l3 r3 le3 H3 p => k B3 h3 tk3 l3 r3 ((le1.trans le2).trans le3) H3 p) tk2

/-! ### items -/
noncomputable def SubQ (led : Led) (x i : MV) (Q : MV → Prop) : Prop := match i with
  | .int k => (match x with
    | .lst xs => (0 ≤ k ∧ k < 2 ^ 63) ∧ ∃ y, xs[k.toNat]? = some y ∧ Q y
    | .tup xs => (0 ≤ k ∧ k < 2 ^ 63) ∧ ∃ y, xs[k.toNat]? = some y ∧ Q y
    | .obj a => (0 ≤ k ∧ k < 2 ^ 63) ∧ ∃ xs, (a, LC.list xs) ∈ led ∧ ∃ y, xs[k.toNat]? = some y ∧ Q y
    | .str s => (-(2 ^ 63) ≤ k ∧ k < 2 ^ 63) ∧ ∃ c, (seqIndex? k s.length).bind (s.cps[·]?) = some c ∧ Q (.str ⟨#[c]⟩)
    | _ => False)
  | _ => False

theorem SubQ.sound {B : Fz} {v iv : Value} {x i : MV} {Q : MV → Prop} {s : Shared} {K : Value → Shared → Prop} {value slice : Expr} (rv : VR B v x) (ri : VR B iv i) (H : Hp h₀ B s.heap led) (q : SubQ led x i Q)
    (hs : ∀ o i, subscripted slice false o i = operate [o, i] (getItem o i)) (k : ∀ r tk z, VR B r z → Q z → K r { s with toks := tk }) : wpAny (model prog w) A (subscriptTail value slice v iv) K NoE s := by
  unfold SubQ at q
  split at q
  · cases ri
    rename_i kk u
    split at q
    · obtain ⟨⟨h1, h2⟩, y, e, q⟩ := q
      cases rv with
      | lst e' rs =>
        obtain ⟨r, er, rr⟩ := rs.get e
        have hl : s.heap.IsList _ _ := ⟨_, H.keep _ _ e', rfl, _, rfl⟩
        exact tail_any hl.typeIs slot_list_getitem.lookup (wpAny_getItem_list hl h1 h2 (by simpa using er) (k r s.toks y rr q)) (hs _ _)
    · obtain ⟨⟨h1, h2⟩, y, e, q⟩ := q
      cases rv with
      | tup e' rs =>
        obtain ⟨r, er, rr⟩ := rs.get e
        have ht : IsTup s.heap _ _ := ⟨_, H.keep _ _ e', rfl, _, rfl⟩
        have hlt := (List.getElem?_eq_some_iff.mp er).1
        refine tail_any ht.typeIs slot_tuple_getitem.lookup (PyProof.Rows.getItem_tuple (j := kk.toNat) ht (by lia) h2 ?_ (by simpa using er) (k r s.toks y rr q)) (hs _ _)
        have e0 : ¬ kk < 0 := by lia
        simp [seqIndex?, e0]
        lia
    · obtain ⟨⟨h1, h2⟩, xs, hm, y, e, q⟩ := q
      cases rv
      obtain ⟨l, n, e', rs⟩ := (H.own _ hm).2
      obtain ⟨r, er, rr⟩ := rs.get e
      have hl : s.heap.IsList _ _ := ⟨_, e', rfl, _, rfl⟩
      exact tail_any hl.typeIs slot_list_getitem.lookup (wpAny_getItem_list hl h1 h2 (by simpa using er) (k r s.toks y rr q)) (hs _ _)
    · obtain ⟨⟨h1, h2⟩, c, e, q⟩ := q
      cases rv
      exact tail_any (typeIs_str _ _ _) slot_str_getitem.lookup (PyProof.Rows.getItem_str (by simp only [Bool.or_eq_false_iff, decide_eq_false_iff_not]; lia) e (k _ _ _ .str q)) (hs _ _)
    · exact q.elim
  · exact q.elim

theorem E1.sub {value slice : Expr} {pos} (h : E1 prog w h₀ A env m led value (fun l x => E1 prog w h₀ A env m l slice (fun l' i => SubQ (fled env m l') x i (Q l'))))
    (hs : ∀ o i, subscripted slice false o i = operate [o, i] (getItem o i) := by intro _ _; rfl) : E1 prog w h₀ A env m led (.Subscript value slice pos) Q := fun B s K H k => by
  refine Subscript_ (E1.use h H fun B1 h1 tk1 a x led1 le1 H1 ra q => ?_)
  refine E1.use q H1 fun B2 h2 tk2 b y led2 le2 H2 rb q2 => ?_
  exact SubQ.sound (s := { s with heap := h2, toks := tk2 }) (ra.mono le2) rb H2 q2 hs fun r tk z rz qz => k B2 h2 tk _ r (le1.trans le2) H2 (.of rz qz)

/-! ### slices -/
/-- a bound of a slice -/
noncomputable def BdQ (env : Env) (m : Vars) (prog : Program) (w : World) (h₀ : Heap) (A : Around) (led : Led) : Option Expr → (Led → Option Int → Prop) → Prop
  | none, Q => Q led none
  | some e, Q => E1 prog w h₀ A env m led e (fun l x => (x = .none ∧ Q l none) ∨ ∃ k, x = .int k ∧ Q l (some k))
noncomputable def BP (env : Env) (m : Vars) (Q : Led → Option Int → Prop) : Fz → Led → Value → Prop := fun B led v => ∃ o led1, led = fled env m led1 ∧ IsPart v o ∧ (∃ p : Option (Int × Tok), v = partValue p ∧ p.map (·.1) = o) ∧ Q led1 o
theorem BdQ.sound {e : Option Expr} {Q : Led → Option Int → Prop} (h : BdQ env m prog w h₀ A led e Q) (B : Fz) : Tr prog w h₀ B A (fled env m led) (evalPart e env) (BP env m Q) := fun s K H k => by
  cases e with
  | none => exact wpAny_pure (k B s.heap s.toks _ _ (Le.refl _) H ⟨none, led, rfl, .none, ⟨none, rfl, rfl⟩, h⟩)
  | some e =>
    refine E1.use h H fun B1 h1 tk1 a x led1 le1 H1 ra qX => ?_
    obtain ⟨rfl, q⟩ | ⟨kk, rfl, q⟩ := qX
    · cases ra; exact k B1 h1 tk1 _ _ le1 H1 ⟨none, led1, rfl, .none, ⟨none, rfl, rfl⟩, q⟩
    · cases ra; exact k B1 h1 tk1 _ _ le1 H1 ⟨some kk, led1, rfl, .int _ _, ⟨some (kk, _), rfl, rfl⟩, q⟩

/-- a slice by ones of a list or tuple that stands still, or of a text -/
noncomputable def SlQ (led : Led) (x : MV) (lo hi : Option Int) (Q : Led → MV → Prop) : Prop := match x with
  | .str t => t.length ≤ sizeLine ∧ Q led (.str (Txt.slice t lo hi))
  | .lst xs => xs.length ≤ sizeLine ∧ Q led (.lst ((xs.drop (lo.elim 0 (clipAt xs.length))).take (hi.elim xs.length (clipAt xs.length) - lo.elim 0 (clipAt xs.length))))
  | .obj a => ∃ xs, (a, LC.list xs) ∈ led ∧ xs.length ≤ sizeLine ∧ Q led (.lst ((xs.drop (lo.elim 0 (clipAt xs.length))).take (hi.elim xs.length (clipAt xs.length) - lo.elim 0 (clipAt xs.length))))
  | _ => False

theorem slList {B : Fz} {h : Heap} {v : Value} {x : MV} {lo hi : Option Int} (rv : VR B v x) (H : Hp h₀ B h (fled env m led)) (q : SlQ led x lo hi Q) :
    (∃ t tk, v = .str t tk ∧ t.length ≤ sizeLine ∧ Q led (.str (Txt.slice t lo hi))) ∨
    (∃ a l n xs, v = .ref a ∧ h.get? a = some (lstO l n) ∧ VRs B l xs ∧ xs.length ≤ sizeLine ∧ Q led (.lst ((xs.drop (lo.elim 0 (clipAt xs.length))).take (hi.elim xs.length (clipAt xs.length) - lo.elim 0 (clipAt xs.length))))) := by
  unfold SlQ at q
  split at q
  · cases rv; exact .inl ⟨_, _, rfl, q.1, q.2⟩
  · cases rv with
    | lst e rs => exact .inr ⟨_, _, _, _, rfl, H.keep _ _ e, rs, q.1, q.2⟩
  · cases rv
    obtain ⟨xs, hm, hz, q⟩ := q
    obtain ⟨l, n, e, rs⟩ := (H.own _ (List.mem_cons_of_mem _ hm)).2
    exact .inr ⟨_, _, _, _, rfl, e, rs, hz, q⟩
  · exact q.elim

theorem E1.slice {value : Expr} {lower upper : Option Expr} {p pos}
    (h : E1 prog w h₀ A env m led value (fun l x => BdQ env m prog w h₀ A l lower (fun l1 lo => BdQ env m prog w h₀ A l1 upper (fun l2 hi => SlQ l2 x lo hi Q)))) : E1 prog w h₀ A env m led (.Subscript value (.Slice lower upper Option.none p) pos) Q := fun B s K H k => by
  refine Subscript_ (E1.use h H fun B1 h1 tk1 va x led1 le1 H1 ra q => ?_)
  refine wpAny_Slice (q.sound B1 _ _ H1 ?_)
  rintro B2 h2 tk2 _ vl le2 H2 ⟨lo, led2, rfl, pl, ⟨ql, el, ol⟩, q2⟩
  refine q2.sound B2 _ _ H2 ?_
  rintro B3 h3 tk3 _ vu le3 H3 ⟨hi, led3, rfl, pu, ⟨qu, eu, ou⟩, q3⟩
  rw [evalPart_none]
  refine wpAny_pure ?_
  have H4 : Hp h₀ B3 (h3.push { cls := .type "slice", data := .fields #[vl, vu, .none] }) (fled env m led3) := H3.keeps fun b o e => Heap.get?_push_of_some _ e
  have hs : ∀ o i, subscripted (.Slice lower upper Option.none p) false o i = operate [i, o] (getItem o i) := fun _ _ => rfl
  rcases slList ((ra.mono le2).mono le3) H4 q3 with ⟨t, tk, rfl, hz, qq⟩ | ⟨a, l, n, xs, rfl, e, rs, hz, qq⟩
  · subst el eu
    refine tail_any (typeIs_str _ t tk) F.slot_str_getitem.lookup (wpAny_getItem_str_slice (l := ql) (u := qu) (st := Option.none) ⟨_, Heap.get?_push_size _ rfl, rfl, rfl⟩ rfl ?_) (hs _ _)
    have e5 : (sliceMade t tk ql qu Option.none) = (if ((1 : Int) == 1 && (Builtin.Str.strSliceIndices lo hi 1 t.length).length == t.length) = true then Made.val (.str t tk) else Made.str ⟨((Builtin.Str.strSliceIndices lo hi 1 t.length).filterMap (t.cps[·]?)).toArray⟩) := by
      rw [← ol, ← ou]; rfl
    rw [e5]
    refine post_val_or_str ⟨Nat.le_trans (Txt.slice_le t lo hi) hz, fun t' kk => ?_⟩
    exact k B3 _ kk _ _ ((le1.trans le2).trans le3) H4 (.of .str qq)
  · have hl : (h3.push { cls := .type "slice", data := .fields #[vl, vu, .none] }).IsList a l.toArray := ⟨_, e, rfl, n, rfl⟩
    refine tail_any (T := "list") ⟨_, e, rfl⟩ slot_list_getitem.lookup (wpAny_getItem_list_slice (s := { s with heap := _, toks := tk3 }) hl (Heap.IsSliceOf.new ..) pl pu .none (by simp) ?_ (by rw [List.size_toArray, rs.length]; exact hz)) (hs _ _)
    rw [slicePick_plain]
    simp only [List.size_toArray, rs.length]
    obtain ⟨H5, le5⟩ := H4.frz (o := lstO ((l.drop (lo.elim 0 (clipAt xs.length))).take (hi.elim xs.length (clipAt xs.length) - lo.elim 0 (clipAt xs.length))) 0) (fresh_none _) (fun b o e => Heap.get?_push_of_some _ e) (Heap.get?_push_size _ rfl)
    exact k _ _ tk3 _ _ (((le1.trans le2).trans le3).trans le5) H5 ⟨_, led3, rfl, .lst addB_self (((rs.drop _).take _).mono le5), qq⟩
end
end Yy

end

section
set_option maxRecDepth 100000
namespace Yy
open PySem PySem.W PySem.Calls PyProof.Rows

section
variable {prog : Program} {w : World} {h₀ : Heap}
variable {A : Around} {env : Env} {m : Vars} {led : Led} {Q : Led → MV → Prop} {QT : Led → Bool → Prop} {Qn : Vars → Led → Prop} {Qr : Led → MV → Prop}

/-! ### targets -/
noncomputable def MP (env : Env) (Qm : Vars → Led → Prop) : Fz → Led → Unit → Prop := fun _ led _ => ∃ m led1, led = fled env m led1 ∧ Qm m led1
/-- a value goes to a target -/
noncomputable def As (prog : Program) (w : World) (h₀ : Heap) (A : Around) (env : Env) (m : Vars) (led : Led) (t : Expr) (x : MV) (Qm : Vars → Led → Prop) : Prop :=
  ∀ B v, VR B v x → Tr prog w h₀ B A (fled env m led) (assign t env v) (MP env Qm)
theorem As.loc {x : Str} {pos} {y : MV} (hk : env.scope.kind = .function) (hl : env.kindOf x = some .local) (h : Qn ((x, y) :: m) led) : As prog w h₀ A env m led (.Name x pos) y Qn := fun B v rv s K H k =>
  PySem.wpAny_assign_Name (store_loc hk hl H rv fun h' tk H' => k B h' tk _ _ (Le.refl _) H' ⟨_, led, rfl, h⟩)
theorem As.cell {x : Str} {pos} {y : MV} {c : Addr} (hk : env.scope.kind = .function) (hl : env.kindOf x = some .cell) (hc : env.cells.lookup x = some c)
    (h : ∃ o pre post, led = pre ++ (c, .cell o) :: post ∧ Qn m (pre ++ (c, .cell (some y)) :: post)) : As prog w h₀ A env m led (.Name x pos) y Qn := fun B v rv s K H k => by
  obtain ⟨o, pre, post, rfl, q⟩ := h
  exact PySem.wpAny_assign_Name (store_cell hk hl hc H rv fun h' tk H' => k B h' tk _ _ (Le.refl _) H' ⟨_, _, rfl, q⟩)

/-- a list of targets, in order -/
noncomputable def AsL (prog : Program) (w : World) (h₀ : Heap) (A : Around) (env : Env) : Vars → Led → List Expr → List MV → (Vars → Led → Prop) → Prop
  | m, led, t :: ts, x :: xs, Qm => As prog w h₀ A env m led t x fun m' l' => AsL prog w h₀ A env m' l' ts xs Qm
  | m, led, [], [], Qm => Qm m led
  | _, _, _, _, _ => False
theorem AsL.sound : ∀ {ts : List Expr} {xs : List MV} {m : Vars} {led : Led} {Qm : Vars → Led → Prop}, AsL prog w h₀ A env m led ts xs Qm → ∀ B vs, VRs B vs xs → Tr prog w h₀ B A (fled env m led) (assignInOrder (ts.map fun t => assign t env) vs) (MP env Qm)
  | [], [], m, led, Qm, h, B, vs, rs => fun s K H k => by
    cases rs
    exact wpAny_pure (k B s.heap s.toks _ _ (Le.refl _) H ⟨m, led, rfl, h⟩)
  | t :: ts, x :: xs, m, led, Qm, h, B, vs, rs => fun s K H k => by
    cases rs with
    | cons r rs =>
      show wpAny _ _ (do holding _ (assign t env _); assignInOrder _ _) _ _ _
      refine wpAny_bind (wpAny_holding (h B _ r _ _ H ?_))
      rintro B1 h1 tk1 _ u le1 H1 ⟨m', led1, rfl, q⟩
      exact AsL.sound q B1 _ (rs.mono le1) _ _ H1 fun B2 h2 tk2 l r le2 H2 p => k B2 h2 tk2 l r (le1.trans le2) H2 p
  | [], _ :: _, _, _, _, h, _, _, _ => h.elim
  | _ :: _, [], _, _, _, h, _, _, _ => h.elim

theorem As.tup {ts : List Expr} {k0 pos} {xs : List MV} (hr : A.handled = none) (h : AsL prog w h₀ A env m led ts xs Qn) (hl : ts.length = xs.length)
    (ha : assignEach ts env = ts.map fun t => (false, assign t env) := by rfl) : As prog w h₀ A env m led (.Tuple ts k0 pos) (.tup xs) Qn := fun B v rv s K H k => by
  cases rv with
  | tup e rs =>
    rename_i a n l
    have ht : s.heap.IsTuple a l.toArray := ⟨_, H.keep _ _ e, rfl, n, rfl⟩
    refine wpAny_assign_Tuple hr ht (by rw [ha, List.length_map, List.size_toArray, rs.length, hl]) ?_ fun h' hx => ?_
    · rw [ha]
      clear ha h
      have : ∀ ts : List Expr, List.findIdx? (fun x : Bool × (Value → Sem Unit) => x.1) (ts.map fun t => (false, assign t env)) = Option.none := by
        intro ts
        induction ts with
        | nil => rfl
        | cons t ts ih => rw [List.map_cons, List.findIdx?_cons]; simp [ih]
      exact this ts
    · rw [ha, List.map_map]
      exact h.sound B _ (by simpa using rs) _ _ (H.keeps fun b o e => hx b o (Nat.ne_of_lt (Heap.lt_size e)) e) k

theorem X1.assignT {ts : List Expr} {k0 tpos e pos} (h : E1 prog w h₀ A env m led e (fun l y => As prog w h₀ A env m l (.Tuple ts k0 tpos) y Qn))
    (hs : swapsWithSole [.Tuple ts k0 tpos] e pos.line env = Pure.pure false := by rfl)
    (hw : swappedStores [.Tuple ts k0 tpos] e env = Pure.pure Option.none := by rfl) : X1 prog w h₀ A env m led (.Assign [.Tuple ts k0 tpos] e pos) Qn Qr := fun B s K H k => by
  refine PyProof.Rows.Assign_Tuple (E1.use h H fun B1 h1 tk1 v y led1 le1 H1 rv q => ?_) hs hw
  refine q B1 v rv _ _ H1 ?_
  rintro B2 h2 tk2 _ u le2 H2 ⟨m', led2, rfl, q2⟩
  exact k B2 h2 tk2 _ _ (le1.trans le2) H2 ⟨m', led2, rfl, q2⟩

/-- two names at once, from a written pair: stored from behind -/
theorem X1.swap {a b : Str} {pa pb : Pos} {k0 k1 tpos vpos pos} {e1 e2 : Expr} (hr : A.handled = none) (hk : env.scope.kind = .function) (hla : env.kindOf a = some .local) (hlb : env.kindOf b = some .local)
    (h : E1 prog w h₀ A env m led (.Tuple [e1, e2] k1 vpos) (fun l y => ∃ x z, y = .tup [x, z] ∧ Qn ((a, x) :: (b, z) :: m) l))
    (hs : swapsWithSole [.Tuple [.Name a pa, .Name b pb] k0 tpos] (.Tuple [e1, e2] k1 vpos) pos.line env = Pure.pure false := by rfl)
    (hw : swappedStores [.Tuple [.Name a pa, .Name b pb] k0 tpos] (.Tuple [e1, e2] k1 vpos) env = Pure.pure (some [a, b]) := by rfl) : X1 prog w h₀ A env m led (.Assign [.Tuple [.Name a pa, .Name b pb] k0 tpos] (.Tuple [e1, e2] k1 vpos) pos) Qn Qr := fun B s K H k => by
  refine PyProof.Rows.Assign_Tuple_swapped (E1.use h H fun B1 h1 tk1 v y led1 le1 H1 rv qX => ?_) hs hw
  obtain ⟨x, z, rfl, q⟩ := qX
  cases rv with
  | tup e rs =>
    rename_i t n l
    have ht : Heap.IsTuple h1 t l.toArray := ⟨_, H1.keep _ _ e, rfl, n, rfl⟩
    cases rs with
    | cons rx rs =>
      cases rs with
      | cons rz rs =>
        cases rs
        rename_i v1 v2
        rw [show [a, b].length = [v1, v2].toArray.size from rfl]
        refine wpAny_unpackItems_tuple (items := [v1, v2].toArray) (s := { s with heap := h1, toks := tk1 }) hr ht (fun h' hx => ?_)
        have H2 : Hp h₀ B1 h' (fled env m led1) := H1.keeps fun b o e => hx b o (Nat.ne_of_lt (Heap.lt_size e)) e
        rw [show [a, b].reverse.map (fun n => bindName env n) = [bindName env b, bindName env a] from rfl, show ([v1, v2].toArray.toList).reverse = [v2, v1] from rfl, show assignInOrder [bindName env b, bindName env a] [v2, v1] = (do holding [v1] (bindName env b v2); holding [] (bindName env a v1); Pure.pure ()) from rfl]
        refine wpAny_bind (wpAny_holding (wpAny_bindName (store_loc hk hlb H2 rz fun h2 tk2 H3 => ?_)))
        refine wpAny_bind (wpAny_holding (wpAny_bindName (store_loc hk hla H3 rx fun h3 tk3 H4 => wpAny_pure ?_)))
        exact k B1 h3 tk3 _ _ le1 H4 ⟨_, led1, rfl, q⟩

/-- a = b = e -/
theorem X1.assign2 {a b : Str} {pa pb : Pos} {e pos} (hk : env.scope.kind = .function) (hla : env.kindOf a = some .local) (hlb : env.kindOf b = some .local)
    (h : E1 prog w h₀ A env m led e (fun l y => Qn ((b, y) :: (a, y) :: m) l))
    (he : (assignEach [.Name a pa, .Name b pb] env).map (·.2) = [PySem.assign (.Name a pa) env, PySem.assign (.Name b pb) env] := by rfl)
    (hw : swappedStores [.Name a pa, .Name b pb] e env = Pure.pure Option.none := by rfl) : X1 prog w h₀ A env m led (.Assign [.Name a pa, .Name b pb] e pos) Qn Qr := fun B s K H k => by
  refine wpAny_Assign_two (E1.use h H fun B1 h1 tk1 v y led1 le1 H1 rv q => ?_) he hw
  refine PySem.wpAny_assign_Name (store_loc hk hla H1 rv fun h2 tk2 H2 => ?_)
  exact PySem.wpAny_assign_Name (store_loc hk hlb H2 rv fun h3 tk3 H3 => k B1 h3 tk3 _ _ le1 H3 ⟨_, led1, rfl, q⟩)

/-! ### x += e -/
inductive AugQ : Operator → MV → MV → (MV → Prop) → Prop
  | addi {a b : Int} {Q : MV → Prop} : Q (.int (a + b)) → AugQ .Add (.int a) (.int b) Q
  | subi {a b : Int} {Q : MV → Prop} : Q (.int (a - b)) → AugQ .Sub (.int a) (.int b) Q
  | shl {a b : Int} {Q : MV → Prop} : Q (.int (a * 2 ^ b.toNat)) → (0 ≤ b ∧ (Builtin.Int.intBits a : Int) + b ≤ 2 ^ 27) → AugQ .LShift (.int a) (.int b) Q
  | shr {a b : Int} {Q : MV → Prop} : Q (.int (a.fdiv (2 ^ b.toNat))) → 0 ≤ b → AugQ .RShift (.int a) (.int b) Q
theorem AugQ.sound {op : Operator} {B : Fz} {a b : Value} {x y : MV} {Q : MV → Prop} {s : Shared} {K : Value → Shared → Prop} (ra : VR B a x) (rb : VR B b y) (q : AugQ op x y Q)
    (k : ∀ v tk z, VR B v z → Q z → K v { s with toks := tk }) : wpAny (model prog w) A (inplaceOp op a b) K NoE s := by
  cases q with
  | addi h => obtain ⟨_, rfl⟩ := ra.int_; obtain ⟨_, rfl⟩ := rb.int_; exact PySem.P.iadd_int (k _ _ _ .int h)
  | subi h => obtain ⟨_, rfl⟩ := ra.int_; obtain ⟨_, rfl⟩ := rb.int_; exact PySem.P.isub_int (k _ _ _ .int h)
  | shl h h' => obtain ⟨_, rfl⟩ := ra.int_; obtain ⟨_, rfl⟩ := rb.int_; exact PyProof.Rows.ilshift_int h'.1 h'.2 (k _ _ _ .int h)
  | shr h h' => obtain ⟨_, rfl⟩ := ra.int_; obtain ⟨_, rfl⟩ := rb.int_; exact PyProof.Rows.irshift_int h' (k _ _ _ .int h)
theorem X1.aug {x : Str} {p' : Pos} {op : Operator} {e pos} {y : MV} (hk : env.scope.kind = .function) (hl : env.kindOf x = some .local) (hv : m.lookup x = some y)
    (h : E1 prog w h₀ A env m led e (fun l z => AugQ op y z (fun r => Qn ((x, r) :: m) l))) : X1 prog w h₀ A env m led (.AugAssign (.Name x p') op e pos) Qn Qr := fun B s K H k => by
  obtain ⟨f, hn, hr⟩ := H.ns
  obtain ⟨v, ev, rv⟩ := hr x y hv
  refine wpAny_AugAssign_Name (wpAny_loadName_local hk hl hn ev (E1.use h H fun B1 h1 tk1 vz z led1 le1 H1 rz q => ?_))
  refine AugQ.sound (rv.mono le1) rz q fun r tk zz rr qq => ?_
  exact store_loc (s := { s with heap := h1, toks := tk }) hk hl H1 rr fun h2 tk2 H2 => k B1 h2 tk2 _ _ le1 H2 ⟨_, led1, rfl, qq⟩

/-! ### xs[i] = e -/
theorem setItem_own {B : Fz} {a : Addr} {xs : List MV} {k : Int} {t : Tok} {v : Value} {y : MV} {pre post : Led} {s : Shared} {K : Unit → Shared → Prop} (H : Hp h₀ B s.heap (pre ++ (a, .list xs) :: post)) (rv : VR B v y) (h0 : 0 ≤ k) (hk : k.toNat < xs.length) (hfit : k < 2 ^ 63)
    (kk : ∀ h', Hp h₀ B h' (pre ++ (a, .list (xs.set k.toNat y)) :: post) → K () { s with heap := h' }) : wpAny (model prog w) A (setItem (.ref a) (.int k t) v) K NoE s := by
  obtain ⟨l, n, e, rs⟩ := (H.own (a, .list xs) (by simp)).2
  have hT : s.TypeIs (.ref a) "list" := ⟨_, e, rfl⟩
  have hlt : k.toNat < l.length := by rw [rs.length]; exact hk
  unfold setItem
  try with_reducible refine wpAny_holding ?_
  first | refine wpAny_bind (wpAny_pure ?_) | skip
  refine wpAny_bind (wpAny_sequenceKey hT (by decide) ?_)
  refine wpAny_bind (wpAny_callSpecial?_slot (name := Str.ofString "__setitem__") hT PySem.slot_list_setitem (wpAny_call_entry PySem.slot_list_setitem hT PySem.entry_list_setitem ?_ (PySem.args_list_setitem _ _ _)))
  show wpAny _ _ (Builtin.List.listSubscript? (.int k t) >>= _) _ _ s
  refine wpAny_bind (wpAny_listSubscript_int (fitsIndex_of h0 hfit) ?_)
  obtain ⟨j, rfl⟩ := Int.eq_ofNat_of_zero_le h0
  have hj : j < l.length := by simpa using hlt
  show wpAny _ _ ((seqItemAt a j >>= fun r => Pure.pure (r.map (j, ·))) >>= _) _ _ s
  refine wpAny_bind (wpAny_bind (wpAny_seqItemAt e rfl (wpAny_pure ?_)))
  rw [show l.toArray[j]? = some l[j] by simp [hj]]
  show wpAny _ _ (setSeqItemAt a j v >>= _) _ _ s
  refine wpAny_bind (wpAny_setSeqItemAt e rfl ?_)
  have e2 : (Obj.mapSeq (fun x => x.setIfInBounds j v) (lstO l n)) = lstO (l.set j v) n := by
    simp [Obj.mapSeq, lstO]
  have e3 : (s.heap.update a (Obj.mapSeq fun x => x.setIfInBounds j v)).get? a = some (lstO (l.set j v) n) := e2 ▸ Heap.get?_update_self _ e (by rw [e2]; rfl)
  have H2 : Hp h₀ B (s.heap.update a (Obj.mapSeq fun x => x.setIfInBounds j v)) (pre ++ (a, .list (xs.set j y)) :: post) :=
    Hp.turn H (fun b o hb q => (Heap.get?_update_other _ _ (Ne.symm hb)).trans q) ⟨_, n, e3, rs.set j rv⟩
  first
    | exact wpAny_bind (wpAny_pure (wpAny_pure ⟨.none, rfl, wpAny_pure (kk _ H2)⟩))
    | exact wpAny_pure ⟨.none, rfl, wpAny_pure (kk _ H2)⟩

theorem X1.store {o i : Expr} {p' : Pos} {e pos}
    (h : E1 prog w h₀ A env m led e (fun l y => E1 prog w h₀ A env m l o (fun l1 ov => E1 prog w h₀ A env m l1 i (fun l2 iv => ∃ a k xs pre post, ov = .obj a ∧ iv = .int k ∧ l2 = pre ++ (a, .list xs) :: post ∧ (0 ≤ k ∧ k.toNat < xs.length ∧ k < 2 ^ 63) ∧ Qn m (pre ++ (a, .list (xs.set k.toNat y)) :: post)))))
    (hs : swapsWith e (some (.Subscript o i p')) pos.line env = Pure.pure false := by rfl) : X1 prog w h₀ A env m led (.Assign [.Subscript o i p'] e pos) Qn Qr := fun B s K H k => by
  refine wpAny_Assign_Subscript (E1.use h H fun B1 h1 tk1 v y led1 le1 H1 rv q => ?_) hs
  refine E1.use q H1 fun B2 h2 tk2 vo ov led2 le2 H2 ro q2 => ?_
  refine E1.use q2 H2 fun B3 h3 tk3 vi iv led3 le3 H3 ri qX => ?_
  obtain ⟨a, kk, xs, pre, post, rfl, rfl, rfl, ⟨g0, g1, g2⟩, q3⟩ := qX
  cases ro; cases ri
  exact setItem_own (pre := (env.locals, .ns m) :: pre) (s := { s with heap := h3, toks := tk3 }) H3 ((rv.mono le2).mono le3) g0 g1 g2 fun h4 H4 => k B3 h4 tk3 _ _ ((le1.trans le2).trans le3) H4 ⟨m, _, rfl, q3⟩

/-! ### while -/
end
end Yy

end

section
set_option maxRecDepth 100000
namespace Yy
open PySem PySem.W PySem.Calls PyProof.Rows

section
variable {prog : Program} {w : World} {h₀ : Heap}
variable {A : Around} {env : Env} {m : Vars} {led : Led} {Q : Led → MV → Prop} {QT : Led → Bool → Prop} {Qn : Vars → Led → Prop} {Qr : Led → MV → Prop}

/-! ### what stands aside -/
noncomputable def OwnOk (own : Led) : Prop := ∀ p ∈ own, ∃ P, p.2 = .prd P ∧ ∀ o, P o → NoSeq o
theorem OwnOk.nil : OwnOk [] := fun _ h => nomatch h
theorem OwnOk.cons {a : Addr} {P : Obj → Prop} {own : Led} (h : ∀ o, P o → NoSeq o) (r : OwnOk own) : OwnOk ((a, .prd P) :: own) := fun p hp => by
  rcases List.mem_cons.mp hp with rfl | hp
  · exact ⟨P, rfl, h⟩
  · exact r p hp
theorem OwnOk.tail {p} {own : Led} (h : OwnOk (p :: own)) : OwnOk own := fun q hq => h q (.tail _ hq)

theorem Tr.frames {α : Type} {P : Fz → Led → α → Prop} {t : Sem α} (hst : ∀ B a o l r, B a = some o → NoSeq o → P B l r → P (delB B a) l r) :
    ∀ {own : Led}, OwnOk own → ∀ {B : Fz} {led : Led}, (∀ B', Le B B' → Tr prog w h₀ B' A led t P) → Tr prog w h₀ B A (own ++ led) t (fun B' l r => ∃ l1, l = own ++ l1 ∧ P B' l1 r)
  | [], _, B, led, h => fun s K H k => h B (Le.refl _) s K H fun B' h' tk l r le H' p => k B' h' tk l r le H' ⟨l, rfl, p⟩
  | (a, c) :: own, ho, B, led, h => fun s K H k => by
    obtain ⟨P0, e0, hn⟩ := ho _ (.head _)
    have e1 : c = .prd P0 := e0
    subst e1
    obtain ⟨o, po, hB, hle, H1⟩ := H.still
    have h0 : h₀.get? a = none := by
      cases q : h₀.get? a with
      | none => rfl
      | some o' => have := H.base _ _ q; rw [hB] at this; cases this
    refine Tr.frames hst ho.tail (B := addB B a o) (fun B' le => h B' (hle.trans le)) s K H1 ?_
    rintro B2 h2 tk2 l r le2 H2 ⟨l1, rfl, p⟩
    have hB2 : B2 a = some o := le2 _ _ addB_self
    exact k (delB B2 a) h2 tk2 _ r (Le.del hB (hle.trans le2)) (H2.stir hB2 h0 (hn o po) po) ⟨l1, rfl, hst B2 a o l1 r hB2 (hn o po) p⟩

theorem FP1.del {B : Fz} {a : Addr} {o : Obj} {l : Led} {f : Flow} (ho : B a = some o) (hn : NoSeq o) (h : FP1 env Qn Qr B l f) : FP1 env Qn Qr (delB B a) l f := by
  cases f with
  | next => exact h
  | ret v => obtain ⟨x, m, l1, e, r, q⟩ := h; exact ⟨x, m, l1, e, r.del ho hn, q⟩
  | _ => exact h

/-- the ledger's order is no matter -/
theorem Tr.perm {α : Type} {P : Fz → Led → α → Prop} {t : Sem α} {B : Fz} {l l' : Led} (hp : l.Perm l') (h : Tr prog w h₀ B A l' t P) : Tr prog w h₀ B A l t P := fun s K H k => h s K (H.perm hp) k

/-! ### iterators -/
structure Itr (prog : Program) (w : World) (h₀ : Heap) (A : Around) (t : Expr) (B : Fz) (it : Value) (own : Nat → Led) (items : List MV) (E : Led) : Prop where
  ok : ∀ i, OwnOk (own i)
  item : ∀ i x, items[i]? = some x → ∀ B', Le B B' → ∀ led, (∀ e ∈ E, e ∈ led) → Tr prog w h₀ B' A (own i ++ led) (pyNext it) (fun B'' led' r => ∃ v, r = some v ∧ VR B'' v x ∧
    Tr prog w h₀ B'' A led' (letOwnedTupleGo t it v) (fun _ led3 _ => led3 = own (i + 1) ++ led))
  done : ∀ B', Le B B' → ∀ led, (∀ e ∈ E, e ∈ led) → Tr prog w h₀ B' A (own items.length ++ led) (pyNext it) (fun _ led' r => led' = led ∧ r = none)
  self : ∀ B', Le B B' → ∀ led, Tr prog w h₀ B' A (own 0 ++ led) (pyIter it) (fun _ led' r => led' = own 0 ++ led ∧ r = it)
theorem Itr.mono {t : Expr} {B B' : Fz} {it : Value} {own : Nat → Led} {items : List MV} {E : Led} (h : Itr prog w h₀ A t B it own items E) (le : Le B B') : Itr prog w h₀ A t B' it own items E :=
  ⟨h.ok, fun i x e B2 l2 => h.item i x e B2 (le.trans l2), fun B2 l2 => h.done B2 (le.trans l2), fun B2 l2 => h.self B2 (le.trans l2)⟩

/-- an expression, and what iterates over it -/
noncomputable def It1 (prog : Program) (w : World) (h₀ : Heap) (A : Around) (env : Env) (m : Vars) (led : Led) (t : Expr) (e : Expr) (Q : Led → List MV → Prop) : Prop :=
  ∀ B s (K : Value → Shared → Prop), Hp h₀ B s.heap (fled env m led) →
    (∀ B' h' tk led1 own items it, Le B B' → Hp h₀ B' h' (own 0 ++ fled env m led1) → Itr prog w h₀ A t B' it own items [] → Q led1 items → K it { s with heap := h', toks := tk }) →
    wpAny (model prog w) A (eval e env) (fun x s₁ => wpAny (model prog w) A (pyIter x) K NoE s₁) NoE s

/-- the same, where what is gone over may stand in the ledger (E), and is to stay there -/
noncomputable def It1O (prog : Program) (w : World) (h₀ : Heap) (A : Around) (env : Env) (m : Vars) (led : Led) (t : Expr) (e : Expr) (Q : Led → List MV → Led → Prop) : Prop :=
  ∀ B s (K : Value → Shared → Prop), Hp h₀ B s.heap (fled env m led) →
    (∀ B' h' tk led1 own items it E, Le B B' → Hp h₀ B' h' (own 0 ++ fled env m led1) → Itr prog w h₀ A t B' it own items E → Q led1 items E → K it { s with heap := h', toks := tk }) →
    wpAny (model prog w) A (eval e env) (fun x s₁ => wpAny (model prog w) A (pyIter x) K NoE s₁) NoE s
theorem It1.o {t e : Expr} {Q : Led → List MV → Led → Prop} (h : It1 prog w h₀ A env m led t e (fun l xs => Q l xs [])) : It1O prog w h₀ A env m led t e Q := fun B s K H k =>
  h B s K H fun B' h' tk led1 own items it le H' I q => k B' h' tk led1 own items it [] le H' I q

/-! ### for -/
noncomputable def ForR (prog : Program) (w : World) (h₀ : Heap) (A : Around) (env : Env) (t : Expr) (body : List Stmt) (Qn : Vars → Led → Prop) (Qr : Led → MV → Prop) : List MV → Vars → Led → Prop
  | [], m, led => Qn m led
  | y :: ys, m, led => As prog w h₀ A env m led t y (fun m' l' => Xs prog w h₀ A env m' l' body (ForR prog w h₀ A env t body Qn Qr ys) Qr)

theorem X1.for {t iter : Expr} {body : List Stmt} {pos} (h : It1 prog w h₀ A env m led t iter (fun l items => ForR prog w h₀ A env t body Qn Qr items m l))
    (hs : ∀ x, foldedSetIterable iter env x = Pure.pure x := by intro _; rfl) : X1 prog w h₀ A env m led (.For t iter body [] pos) Qn Qr := fun B s K H k => by
  refine wpAny_For (h B s _ H ?_) hs
  intro B1 h1 tk1 led1 own items it le1 H1 I q
  let J : Nat → Shared → Prop := fun n s' => ∃ i B' h' tk m' l', s' = { s with heap := h', toks := tk } ∧ n = items.length + 1 - i ∧ i ≤ items.length ∧ Le B1 B' ∧ Hp h₀ B' h' (own i ++ fled env m' l') ∧ ForR prog w h₀ A env t body Qn Qr (items.drop i) m' l'
  refine codeAny_forLoop_any J ?_ (items.length + 1) ⟨0, B1, h1, tk1, m, led1, rfl, rfl, Nat.zero_le _, Le.refl _, H1, q⟩
  rintro n s' ⟨i, B2, h2, tk2, m2, l2, rfl, rfl, hi, le2, H2, q2⟩
  cases hx : items[i]? with
  | none =>
    have hii : i = items.length := Nat.le_antisymm hi (by simpa using hx)
    subst hii
    refine wpAny_mono (I.done B2 le2 _ (fun _ z => nomatch z) { s with heap := h2, toks := tk2 } _ H2 ?_) (fun _ _ p => p) fun _ _ q => False.elim q
    rintro B3 h3 tk3 l3 r le3 H3 ⟨rfl, rfl⟩
    simp only [List.drop_length] at q2
    exact wpAny_execs_nil (k B3 h3 tk3 _ .next ((le1.trans le2).trans le3) H3 ⟨m2, l2, rfl, q2⟩)
  | some x =>
    have hlt := (List.getElem?_eq_some_iff.mp hx).1
    have hd : items.drop i = x :: items.drop (i + 1) := by
      rw [List.drop_eq_getElem_cons hlt, (List.getElem?_eq_some_iff.mp hx).2]
    rw [hd] at q2
    refine wpAny_mono (I.item i x hx B2 le2 _ (fun _ z => nomatch z) { s with heap := h2, toks := tk2 } _ H2 ?_) (fun _ _ p => p) fun _ _ q => False.elim q
    rintro B3 h3 tk3 l3 r le3 H3 ⟨v, rfl, rv, go⟩
    refine wpAny_mono (go _ _ H3 ?_) (fun _ _ p => p) fun _ _ q => False.elim q
    rintro B4 h4 tk4 l4 u le4 H4 rfl
    have st : ∀ B a o (l : Led) (r : Unit), B a = some o → NoSeq o → MP env (fun m' l' => Xs prog w h₀ A env m' l' body (ForR prog w h₀ A env t body Qn Qr (items.drop (i + 1))) Qr) B l r → MP env (fun m' l' => Xs prog w h₀ A env m' l' body (ForR prog w h₀ A env t body Qn Qr (items.drop (i + 1))) Qr) (delB B a) l r := fun _ _ _ _ _ _ _ p => p
    refine wpAny_mono (Tr.frames st (I.ok (i + 1)) (fun B' le => q2 B' v ((rv.mono le4).mono le)) { s with heap := h4, toks := tk4 } _ H4 ?_) (fun _ _ p => p) fun _ _ q => False.elim q
    rintro B5 h5 tk5 l5 u5 le5 H5 ⟨l5', rfl, m5, l6, rfl, q5⟩
    refine wpAny_mono (Tr.frames (fun B a o l r e1 e2 p => FP1.del e1 e2 p) (I.ok (i + 1)) (fun B' le => q5 B') { s with heap := h5, toks := tk5 } (fun f s3 => match f with
          | .next | .cont => ∃ m, m < items.length + 1 - i ∧ J m s3
          | .brk => K .next s3
          | .ret v => K (.ret v) s3) H5 ?_) (fun f _ p => by cases f <;> exact p) fun _ _ q => False.elim q
    rintro B6 h6 tk6 l6' f le6 H6 ⟨l7, rfl, p⟩
    cases f with
    | next =>
      obtain ⟨m7, l8, rfl, q7⟩ := p
      exact ⟨items.length + 1 - (i + 1), Nat.sub_lt_sub_left (Nat.lt_succ_of_le hi) (Nat.lt_succ_self i), i + 1, B6, h6, tk6, m7, l8, rfl, rfl, hlt, ((((le2.trans le3).trans le4).trans le5).trans le6), H6, q7⟩
    | ret v =>
      refine k B6 h6 tk6 l7 _ (((((le1.trans le2).trans le3).trans le4).trans le5).trans le6) (H6.sub (List.sublist_append_right _ _)) p
    | _ => exact p.elim

/-! ### lists and ranges as they are gone over -/
theorem noSeq_of {T : String} {o : Obj} (h : o.cls = .type T) (h1 : T ≠ "list") (h2 : T ≠ "tuple") : NoSeq o := ⟨fun e => h1 (by rw [h] at e; exact Value.type.inj e), fun e => h2 (by rw [h] at e; exact Value.type.inj e)⟩

noncomputable def lstItOwn (it l : Addr) (i : Nat) : Led := [(it, .prd fun o => o.cls = .type "list_iterator" ∧ o.data = .fields #[.ref l, .int i 0])]
theorem letOwned_lst {it : Addr} {v : Value} {t : Expr} {s : Shared} {K : Unit → Shared → Prop} {o : Obj} {T : String} {vs : Array Value} (e : s.heap.get? it = some o) (hc : o.cls = .type T) (hd : o.data = .fields vs)
    (hT : ["enumerate", "zip", "dict_itemiterator", "dict_reverseitemiterator", "odict_iterator", "itertools.zip_longest", "itertools.pairwise"].contains T = false) (k : K () s) : wpAny (model prog w) A (letOwnedTupleGo t (.ref it) v) K NoE s := by
  have fin : wpAny (model prog w) A (do
      let (.ref r, .ref a) := (Value.ref it, v) | return
      let o ← load r
      match o.cls, o.data with
      | .type n, .fields vs =>
        if ["enumerate", "zip", "dict_itemiterator", "dict_reverseitemiterator", "odict_iterator", "itertools.zip_longest", "itertools.pairwise"].contains n && vs[0]? == some (rawInt a) then
          rule "for.unpacks-the-owned-tuple"
          updateField r 0 .none
      | _, _ => Pure.pure ()) K NoE s := by
    cases v with
    | ref a =>
      refine wpAny_bind (wpAny_load e ?_)
      rw [hc, hd]
      simp only [hT, Bool.false_and, Bool.false_eq_true, if_false]
      exact wpAny_pure k
    | _ => exact wpAny_pure k
  cases t with
  | Tuple a b c => exact fin
  | List a b => exact fin
  | _ => exact wpAny_pure k

theorem Itr.list {B : Fz} {l : Addr} {n : Nat} {vs : List Value} {xs : List MV} (hh : A.handled = none) (e : B l = some (lstO vs n)) (rs : VRs B vs xs) {it : Addr} {t : Expr} : Itr prog w h₀ A t B (.ref it) (lstItOwn it l) xs [] where
  ok := fun i => .cons (fun o h => noSeq_of h.1 (by decide) (by decide)) .nil
  item := fun i x hx B' le led _ s K H k => by
    obtain ⟨v, ev, rv⟩ := rs.get hx
    obtain ⟨o, eo, ho⟩ := (H.own _ (.head _)).2
    have hl : s.heap.IsList l vs.toArray := ⟨_, H.keep _ _ (le _ _ e), rfl, n, rfl⟩
    refine wpAny_pyNext_list_item (x := v) ⟨o, eo, ho⟩ hl (by simpa using ev) fun h' hit hs => ?_
    have H2 : Hp h₀ B' h' (lstItOwn it l (i + 1) ++ led) := Hp.turn (pre := []) H (fun b o hb q => (hs.2 b hb).trans q) hit
    refine k B' h' s.toks _ _ (Le.refl _) H2 ⟨v, rfl, rv.mono le, fun s K H k => ?_⟩
    obtain ⟨o, eo, ho⟩ := (H.own _ (.head _)).2
    exact letOwned_lst eo ho.1 ho.2 (by decide) (k B' s.heap s.toks _ () (Le.refl _) H rfl)
  done := fun B' le led _ s K H k => by
    obtain ⟨o, eo, ho⟩ := (H.own _ (.head _)).2
    have hl : s.heap.IsList l vs.toArray := ⟨_, H.keep _ _ (le _ _ e), rfl, n, rfl⟩
    refine wpAny_pyNext_list_end hh ⟨o, eo, ho⟩ hl (by simp [rs.length]) fun h' hs => ?_
    have hnd := List.nodup_cons.mp (show (it :: led.map (·.1)).Nodup from H.nodup)
    refine k B' h' s.toks _ _ (Le.refl _) ((H.tail).ext fun b o q hb => hs b o (fun z => ?_) q) ⟨rfl, rfl⟩
    rcases hb with hb | hb
    · exact hb (z ▸ (H.own _ (.head _)).1)
    · exact hnd.1 (z ▸ hb)
  self := fun B' le led s K H k => by
    obtain ⟨o, eo, ho⟩ := (H.own _ (.head _)).2
    exact wpAny_pyIter_listiter ⟨o, eo, ho⟩ (k B' s.heap s.toks _ _ (Le.refl _) H ⟨rfl, rfl⟩)

/-- a list of the ledger is gone over, and stays there -/
theorem Itr.own {B : Fz} {l : Addr} {xs : List MV} (hh : A.handled = none) {it : Addr} {t : Expr} : Itr prog w h₀ A t B (.ref it) (lstItOwn it l) xs [(l, .list xs)] where
  ok := fun i => .cons (fun o h => noSeq_of h.1 (by decide) (by decide)) .nil
  item := fun i x hx B' le led hE s K H k => by
    obtain ⟨vs, n, e, rs⟩ := (H.own _ (List.mem_append_right _ (hE _ List.mem_cons_self))).2
    obtain ⟨v, ev, rv⟩ := rs.get hx
    obtain ⟨o, eo, ho⟩ := (H.own _ (.head _)).2
    have hl : s.heap.IsList l vs.toArray := ⟨_, e, rfl, n, rfl⟩
    refine wpAny_pyNext_list_item (x := v) ⟨o, eo, ho⟩ hl (by simpa using ev) fun h' hit hs => ?_
    have H2 : Hp h₀ B' h' (lstItOwn it l (i + 1) ++ led) := Hp.turn (pre := []) H (fun b o hb q => (hs.2 b hb).trans q) hit
    refine k B' h' s.toks _ _ (Le.refl _) H2 ⟨v, rfl, rv, fun s K H k => ?_⟩
    obtain ⟨o, eo, ho⟩ := (H.own _ (.head _)).2
    exact letOwned_lst eo ho.1 ho.2 (by decide) (k B' s.heap s.toks _ () (Le.refl _) H rfl)
  done := fun B' le led hE s K H k => by
    obtain ⟨vs, n, e, rs⟩ := (H.own _ (List.mem_append_right _ (hE _ List.mem_cons_self))).2
    obtain ⟨o, eo, ho⟩ := (H.own _ (.head _)).2
    have hl : s.heap.IsList l vs.toArray := ⟨_, e, rfl, n, rfl⟩
    refine wpAny_pyNext_list_end hh ⟨o, eo, ho⟩ hl (by simp [rs.length]) fun h' hs => ?_
    have hnd := List.nodup_cons.mp (show (it :: led.map (·.1)).Nodup from H.nodup)
    refine k B' h' s.toks _ _ (Le.refl _) ((H.tail).ext fun b o q hb => hs b o (fun z => ?_) q) ⟨rfl, rfl⟩
    rcases hb with hb | hb
    · exact hb (z ▸ (H.own _ (.head _)).1)
    · exact hnd.1 (z ▸ hb)
  self := fun B' le led s K H k => by
    obtain ⟨o, eo, ho⟩ := (H.own _ (.head _)).2
    exact wpAny_pyIter_listiter ⟨o, eo, ho⟩ (k B' s.heap s.toks _ _ (Le.refl _) H ⟨rfl, rfl⟩)
theorem It1O.own {t e : Expr} {Q : Led → List MV → Led → Prop} (hh : A.handled = none) (h : E1 prog w h₀ A env m led e (fun l x => ∃ a xs, x = .obj a ∧ (a, LC.list xs) ∈ l ∧ Q l xs [(a, .list xs)])) : It1O prog w h₀ A env m led t e Q := fun B s K H k => by
  refine E1.use h H fun B1 h1 tk1 v x led1 le1 H1 rv qX => ?_
  obtain ⟨a, xs, rfl, hm, q⟩ := qX
  cases rv.obj_
  obtain ⟨vs, n, e, rs⟩ := (H1.own _ (List.mem_cons_of_mem _ hm)).2
  refine wpAny_pyIter_list ⟨_, e, rfl, _, rfl⟩ ?_
  exact k B1 _ tk1 led1 (lstItOwn _ _) xs _ _ le1 (H1.new (fresh_none _) (fun b o q => Heap.get?_push_of_some _ q) ⟨_, Heap.get?_push_size _ rfl, rfl, rfl⟩) (.own hh) q

/-- an expression that is a list that stands still -/
theorem It1.list {t e : Expr} {Q : Led → List MV → Prop} (hh : A.handled = none) (h : E1 prog w h₀ A env m led e (fun l x => ∃ xs, x = .lst xs ∧ Q l xs)) : It1 prog w h₀ A env m led t e Q := fun B s K H k => by
  refine E1.use h H fun B1 h1 tk1 v x led1 le1 H1 rv qX => ?_
  obtain ⟨xs, rfl, q⟩ := qX
  cases rv with
  | lst e rs =>
    refine wpAny_pyIter_list ⟨_, H1.keep _ _ e, rfl, _, rfl⟩ ?_
    exact k B1 _ tk1 led1 (lstItOwn _ _) xs _ le1 (H1.new (fresh_none _) (fun b o q => Heap.get?_push_of_some _ q) ⟨_, Heap.get?_push_size _ rfl, rfl, rfl⟩) (.list hh e rs) q
end
end Yy

end

section
set_option maxRecDepth 100000
namespace Yy
open PySem PySem.W PySem.Calls PyProof.Rows

section
variable {prog : Program} {w : World} {h₀ : Heap}
variable {A : Around} {env : Env} {m : Vars} {led : Led} {Q : Led → MV → Prop} {QT : Led → Bool → Prop} {Qn : Vars → Led → Prop} {Qr : Led → MV → Prop}

theorem Hp.turn0 {B : Fz} {h h' : Heap} {a : Addr} {c c' : LC} {post : Led} (H : Hp h₀ B h ((a, c) :: post)) (e : ∀ b o, b ≠ a → h.get? b = some o → h'.get? b = some o) (hc : c'.holds B h' a) : Hp h₀ B h' ((a, c') :: post) := Hp.turn (pre := []) H e hc
/-- the heap turned at an address that goes -/
theorem Hp.drop0 {B : Fz} {h h' : Heap} {a : Addr} {c : LC} {post : Led} (H : Hp h₀ B h ((a, c) :: post)) (e : ∀ b o, b ≠ a → h.get? b = some o → h'.get? b = some o) : Hp h₀ B h' post := by
  have hnd := List.nodup_cons.mp (show (a :: post.map (·.1)).Nodup from H.nodup)
  refine H.tail.ext fun b o q hb => e b o (fun z => ?_) q
  rcases hb with hb | hb
  · exact hb (z ▸ (H.own _ (.head _)).1)
  · exact hnd.1 (z ▸ hb)

/-! ### range -/
noncomputable def rngO (a b c : Int) (o : Obj) : Prop := ∃ t u v, o = { cls := .type "range", dict := none, data := .fields #[.int a t, .int b u, .int c v], slots := #[] }
noncomputable def rngItems (n : Int) : List MV := (List.range n.toNat).map fun (i : Nat) => MV.int i
noncomputable def rngItOwn (it : Addr) (n : Nat) (i : Nat) : Led := [(it, .prd fun o => o = { cls := .type "range_iterator", dict := none, data := .fields #[rawInt (i : Int), rawInt ((n : Int) - i), rawInt 1], slots := #[] })]

theorem cl_range {n : Int} (h : ∀ r, Q ((r, .prd (rngO 0 n 1)) :: led) (.obj r)) : Cl prog w h₀ A (fled env m led) (.ty "range") [.int n] [] (Ret env m Q) :=
  Cl.ty1 fun B v s K r H k => by
    obtain ⟨_, rfl⟩ := r.int_
    refine call_range_1 (k B _ _ _ _ (Le.refl _) ((H.new (c := .prd (rngO 0 n 1)) (fresh_none _) (fun b o e => Heap.get?_push_of_some _ e) ⟨_, Heap.get?_push_size _ rfl, _, _, _, rfl⟩).perm swap2) ⟨_, .obj, _, rfl, h _⟩)

theorem Itr.range {B : Fz} {n : Nat} (hh : A.handled = none) {it : Addr} {t : Expr} : Itr prog w h₀ A t B (.ref it) (rngItOwn it n) (rngItems n) [] where
  ok := fun i => .cons (fun o h => by subst h; exact noSeq_of (T := "range_iterator") rfl (by decide) (by decide)) .nil
  item := fun i x hx B' le led _ s K H k => by
    have hlt : i < n := by
      have := (List.getElem?_eq_some_iff.mp hx).1
      simpa [rngItems] using this
    have ex : x = .int i := by
      unfold rngItems at hx
      rw [List.getElem?_map, List.getElem?_range (by simpa using hlt)] at hx
      simpa using hx.symm
    subst ex
    obtain ⟨o, eo, rfl⟩ := (H.own _ (.head _)).2
    refine wpAny_pyNext_range_item eo (by lia) fun h' hit hs => ?_
    have H2 : Hp h₀ B' h' (rngItOwn it n (i + 1) ++ led) := Hp.turn0 H (fun b o hb q => (hs.2 b hb).trans q) ⟨_, hit, by
      rw [show ((i : Int) + 1) = ((i + 1 : Nat) : Int) from rfl, show ((n : Int) - i - 1) = (n : Int) - ((i + 1 : Nat) : Int) from Int.sub_sub ..]⟩
    refine k B' h' _ _ _ (Le.refl _) H2 ⟨_, rfl, .int, fun s K H k => ?_⟩
    obtain ⟨o, eo, rfl⟩ := (H.own _ (.head _)).2
    exact letOwned_lst eo rfl rfl (by decide) (k B' s.heap s.toks _ () (Le.refl _) H rfl)
  done := fun B' le led _ s K H k => by
    obtain ⟨o, eo, rfl⟩ := (H.own _ (.head _)).2
    refine wpAny_pyNext_range_end hh eo (by simp [rngItems]) fun h' hs => ?_
    exact k B' h' s.toks _ _ (Le.refl _) (H.drop0 hs) ⟨rfl, rfl⟩
  self := fun B' le led s K H k => by
    obtain ⟨o, eo, rfl⟩ := (H.own _ (.head _)).2
    exact wpAny_pyIter_rangeiter eo (k B' s.heap s.toks _ _ (Le.refl _) H ⟨rfl, rfl⟩)

theorem small_upto {n : Int} (h : n < 2 ^ 62) (h' : -(2 ^ 62) ≤ n) : Builtin.Range.small 0 n 1 = true := small_one (by decide) (by decide) h' h
theorem It1.range {t e : Expr} {Q : Led → List MV → Prop} (hh : A.handled = none) (h : E1 prog w h₀ A env m led e (fun l x => ∃ r n l', x = .obj r ∧ l = (r, .prd (rngO 0 n 1)) :: l' ∧ (-(2 ^ 62) ≤ n ∧ n < 2 ^ 62) ∧ Q l' (rngItems n))) : It1 prog w h₀ A env m led t e Q := fun B s K H k => by
  refine E1.use h H fun B1 h1 tk1 v x led1 le1 H1 rv qX => ?_
  obtain ⟨r, n, l', rfl, rfl, ⟨g1, g2⟩, q⟩ := qX
  cases rv
  obtain ⟨o, eo, t, u, v, rfl⟩ := (H1.own (r, .prd (rngO 0 n 1)) (by simp)).2
  refine wpAny_pyIter_range (s := { s with heap := h1, toks := tk1 }) eo (small_upto g2 g1) ?_
  have H2 : Hp h₀ B1 h1 (fled env m l') := H1.sub (by simp)
  have en : Builtin.Range.rangeSize 0 n 1 = ((n.toNat : Nat) : Int) := by rw [rangeSize_one]; split <;> lia
  rw [en]
  have ei : rngItems n = rngItems ((n.toNat : Nat) : Int) := by show _ = List.map _ (List.range (Int.toNat ((n.toNat : Nat) : Int))); rw [Int.toNat_natCast]; rfl
  rw [ei] at q
  exact k B1 _ tk1 l' (rngItOwn _ n.toNat) _ _ le1 (H2.new (fresh_none _) (fun b o q => Heap.get?_push_of_some _ q) ⟨_, Heap.get?_push_size _ rfl, by simp⟩) (.range hh) q

/-! ### reversed -/
noncomputable def revO (l : Addr) (i : Int) (o : Obj) : Prop := o.cls = .type "list_reverseiterator" ∧ o.data = .fields #[.ref l, rawInt i]
noncomputable def revItOwn (it l : Addr) (n : Nat) (i : Nat) : Led := [(it, .prd (revO l ((n : Int) - 1 - i)))]
theorem rev_i1 {n i : Nat} (h : i < n) : (n : Int) - 1 - i = ((n - 1 - i : Nat) : Int) := by rw [Int.ofNat_sub (Nat.le_sub_one_of_lt h), Int.ofNat_sub (Nat.lt_of_le_of_lt (Nat.zero_le i) h)]; rfl
theorem Itr.rev {B : Fz} {l : Addr} {n : Nat} {vs : List Value} {xs : List MV} (hh : A.handled = none) (e : B l = some (lstO vs n)) (rs : VRs B vs xs) {it : Addr} {t : Expr} : Itr prog w h₀ A t B (.ref it) (revItOwn it l xs.length) xs.reverse [] where
  ok := fun i => .cons (fun o h => noSeq_of h.1 (by decide) (by decide)) .nil
  item := fun i x hx B' le led _ s K H k => by
    have hlt : i < xs.length := by simpa using (List.getElem?_eq_some_iff.mp hx).1
    have hx' : xs[xs.length - 1 - i]? = some x := by rw [List.getElem?_reverse hlt] at hx; exact hx
    obtain ⟨v, ev, rv⟩ := rs.get hx'
    obtain ⟨o, eo, ho⟩ := (H.own _ (.head _)).2
    have hl : s.heap.IsList l vs.toArray := ⟨_, H.keep _ _ (le _ _ e), rfl, n, rfl⟩
    have hit : s.heap.IsRevIter it l ((xs.length - 1 - i : Nat) : Int) := ⟨o, eo, ho.1, by rw [ho.2, rev_i1 hlt]⟩
    refine wpAny_pyNext_rev_item (x := v) hit hl (by simpa using ev) fun h' hit hs => ?_
    have H2 : Hp h₀ B' h' (revItOwn it l xs.length (i + 1) ++ led) := Hp.turn0 H (fun b o hb q => (hs.2 b hb).trans q) (by
      obtain ⟨o, eo, h1, h2⟩ := hit
      exact ⟨o, eo, h1, by rw [h2, ← rev_i1 hlt, Int.natCast_succ, ← Int.sub_sub]⟩)
    refine k B' h' s.toks _ _ (Le.refl _) H2 ⟨v, rfl, rv.mono le, fun s K H k => ?_⟩
    obtain ⟨o, eo, ho⟩ := (H.own _ (.head _)).2
    exact letOwned_lst eo ho.1 ho.2 (by decide) (k B' s.heap s.toks _ () (Le.refl _) H rfl)
  done := fun B' le led _ s K H k => by
    obtain ⟨o, eo, ho⟩ := (H.own _ (.head _)).2
    refine wpAny_pyNext_rev_end (l := l) hh ⟨o, eo, ho.1, by rw [ho.2, List.length_reverse, show (xs.length : Int) - 1 - xs.length = -1 by rw [Int.sub_sub, Int.add_comm, ← Int.sub_sub, Int.sub_self]; rfl]⟩ fun h' hs => ?_
    exact k B' h' s.toks _ _ (Le.refl _) (H.drop0 hs) ⟨rfl, rfl⟩
  self := fun B' le led s K H k => by
    obtain ⟨o, eo, ho⟩ := (H.own _ (.head _)).2
    exact wpAny_pyIter_revIter ⟨o, eo, ho⟩ (k B' s.heap s.toks _ _ (Le.refl _) H ⟨rfl, rfl⟩)

/-- reversed(xs), gone over -/
theorem It1.rev {t : Expr} {x : Str} {np : Pos} {e : Expr} {pos : Pos} {Q : Led → List MV → Prop} (hh : A.handled = none)
    (h : E1 prog w h₀ A env m led (.Name x np) (fun l f => f = .ty "reversed" ∧ E1 prog w h₀ A env m l e (fun l' y => ∃ xs, y = .lst xs ∧ Q l' xs.reverse)))
    (hs : starEach [e] env = [e].map fun e => (false, eval e env) := by rfl) : It1 prog w h₀ A env m led t (.Call (.Name x np) [e] [] pos) Q := fun B s K H k => by
  refine wpAny_Call_Name_kw (E1.use h H fun B1 h1 tk1 fv f led1 le1 H1 rf qX => ?_)
  obtain ⟨rfl, q⟩ := qX
  cases rf
  rw [hs, backTo_plain]
  have q' : Es prog w h₀ A env m led1 [e] (fun l xs => ∃ ys, xs = [.lst ys] ∧ Q l ys.reverse) := q.mono fun l x ⟨xs, e, q⟩ => ⟨xs, by rw [e], q⟩
  let Pq : Fz → Led → Value → Prop := fun B l v => ∃ r lst n vs ys led2, v = .ref r ∧ l = (r, .prd (revO lst ((ys.length : Int) - 1))) :: fled env m led2 ∧ B lst = some (lstO vs n) ∧ VRs B vs ys ∧ Q led2 ys.reverse
  refine callWith_any (f := .ty "reversed") (P := AP env m _) (Q := Pq) .ty (noStar _ _ _ rfl) (evalArgs_Es q') ?_ _ _ H1 ?_
  · rintro B2 led2 a le2 ⟨hk, xs, led3, rfl, rs, ys, rfl, qq⟩
    refine ⟨trivial, fun s K H k => (?_ : wpAny _ _ (PySem.call (.type "reversed") ([] ++ a.pos) a.kw) _ _ _)⟩
    rw [hk]
    revert rs
    refine gen (a.pos) fun ap => ?_
    intro rs
    cases rs with | cons r rs => ?_
    cases rs
    cases r with
    | lst e0 rs =>
      rename_i l0 n0 vs0
      refine call_reversed_list ⟨_, H.keep _ _ e0, rfl, _, rfl⟩ ?_
      refine k B2 _ s.toks _ _ (Le.refl _) (H.new (c := .prd (revO l0 ((ys.length : Int) - 1))) (fresh_none _) (fun b o e => Heap.get?_push_of_some _ e) ⟨_, Heap.get?_push_size _ rfl, rfl, ?_⟩) ⟨_, l0, n0, vs0, ys, led3, rfl, rfl, e0, rs, qq⟩
      show Data.fields #[.ref l0, rawInt ((vs0.toArray.size : Int) - 1)] = _
      rw [List.size_toArray, rs.length]
  · rintro B2 h2 tk2 _ v le2 H2 ⟨r, l0, n0, vs, ys, led2, rfl, rfl, e0, rs, qq⟩
    obtain ⟨o, eo, ho⟩ := (H2.own _ (.head _)).2
    refine wpAny_pyIter_revIter (s := { s with heap := h2, toks := tk2 }) ⟨o, eo, ho⟩ ?_
    exact k B2 h2 tk2 led2 (revItOwn r l0 ys.length) _ _ (le1.trans le2) (by simpa [revItOwn] using H2) (.rev hh e0 rs) qq

/-! ### enumerate -/
theorem nextOf_tuple_item {it t : Addr} {i : Nat} {items : Array Value} {x : Value} {s : Shared} {Q : Value → Shared → Prop} {E : Value → Shared → Prop} (hit : s.heap.IsTupleIter it t i)
    (ht : s.heap.IsTuple t items) (hx : items[i]? = some x)
    (hQ : ∀ h', h'.IsTupleIter it t (i + 1) → Heap.SameBut it s.heap h' → Q x { s with heap := h' }) :
    wpAny (model prog w) A (Builtin.SmallTypes.nextOf (.ref it)) Q E s := by
  obtain ⟨o, ho, hc, hd⟩ := id hit
  obtain ⟨ol, hol, _, nl, hdl⟩ := ht
  unfold Builtin.SmallTypes.nextOf
  refine wpAny_bind (wpAny_callSpecial?_slot (name := Str.ofString "__next__") hit.typeIs F.slot_tuple_iterator_next
    (wpAny_call_entry F.slot_tuple_iterator_next hit.typeIs F.entry_tuple_iterator_next ?_ (F.args_tuple_iterator_next_1 _)))
  show wpAny _ _ (field (.ref it) 0 >>= _) _ _ s
  refine wpAny_bind (wpAny_field ho hd (x := .ref t) rfl ?_)
  show wpAny _ _ (if (Value.ref t == Value.none) = true then _ else _) _ _ s
  rw [if_neg (show ¬ ((Value.ref t == Value.none) = true) from Bool.false_ne_true)]
  show wpAny _ _ (field (.ref it) 1 >>= _) _ _ s
  refine wpAny_bind (wpAny_field ho hd (x := .int i 0) rfl ?_)
  show wpAny _ _ (seqItems? (.ref t) >>= _) _ _ s
  refine wpAny_bind (wpAny_seqItems hol hdl ?_)
  simp only [Int.toNat_natCast, hx]
  refine wpAny_bind (wpAny_setField ho hd (by simp) (wpAny_pure ⟨x, rfl, wpAny_pure (hQ _ ?_ (Heap.SameBut.update ..))⟩))
  exact ⟨_, Heap.get?_update_self _ ho (Obj.isFreed_of_fields (Obj.data_mapFields hd _)), (Obj.cls_mapFields ..).trans hc, by
    rw [Obj.data_mapFields hd]; simp [rawInt]⟩

theorem nextOf_tuple_end {it t : Addr} {i : Nat} {items : Array Value} {s : Shared} {Q : Value → Shared → Prop} {E : Value → Shared → Prop} (hh : A.handled = none)
    (hit : s.heap.IsTupleIter it t i) (ht : s.heap.IsTuple t items) (hx : items[i]? = none)
    (hE : ∀ h' e, Heap.ExtBut it s.heap h' → (∃ o, h'.get? e = some o ∧ o.cls = .type "StopIteration") → E (.ref e) { s with heap := h' }) :
    wpAny (model prog w) A (Builtin.SmallTypes.nextOf (.ref it)) Q E s := by
  obtain ⟨o, ho, hc, hd⟩ := id hit
  obtain ⟨ol, hol, _, nl, hdl⟩ := ht
  unfold Builtin.SmallTypes.nextOf
  refine wpAny_bind (wpAny_callSpecial?_slot (name := Str.ofString "__next__") hit.typeIs F.slot_tuple_iterator_next
    (wpAny_call_entry F.slot_tuple_iterator_next hit.typeIs F.entry_tuple_iterator_next ?_ (F.args_tuple_iterator_next_1 _)))
  show wpAny _ _ (field (.ref it) 0 >>= _) _ _ s
  refine wpAny_bind (wpAny_field ho hd (x := .ref t) rfl ?_)
  show wpAny _ _ (if (Value.ref t == Value.none) = true then _ else _) _ _ s
  rw [if_neg (show ¬ ((Value.ref t == Value.none) = true) from Bool.false_ne_true)]
  show wpAny _ _ (field (.ref it) 1 >>= _) _ _ s
  refine wpAny_bind (wpAny_field ho hd (x := .int i 0) rfl ?_)
  show wpAny _ _ (seqItems? (.ref t) >>= _) _ _ s
  refine wpAny_bind (wpAny_seqItems hol hdl ?_)
  simp only [Int.toNat_natCast, hx]
  refine wpAny_bind (wpAny_rule (wpAny_bind (wpAny_setField ho hd (by simp) ?_)))
  show wpAny _ _ (newExc (.type "StopIteration") [] >>= _) _ _ _
  refine wpAny_bind ?_
  simp only [newExc, newTuple]
  refine wpAny_bind (wpAny_newObj_type ?_ (by size_fits))
  refine wpAny_bind (m := firstArgMember _ _) (wpAny_of_eq (a := Value.none) (by first | rfl | (simp only [firstArgMember]; rfl)) ?_)
  refine wpAny_newObj_type ?_ (by size_fits)
  delta raiseNew
  refine wpAny_bind (wpAny_handled ?_)
  first | rw [show A.in1.handled = none from hh] | rw [hh]
  refine wpAny_bind (wpAny_pure (wpAny_throw ?_))
  exact hE _ _ (((Heap.SameBut.update ..).extBut.push _).push _) ⟨_, Heap.get?_push_size _ rfl, rfl⟩

/-- what is gone over by its number: P says what stands in the source's state -/
structure Src (prog : Program) (w : World) (A : Around) (B : Fz) (it : Addr) (S0 : Nat → Obj → Prop) (xs : List MV) : Prop where
  seq : ∀ i o, S0 i o → NoSeq o
  draws : ∃ fp P St, Draws prog w A it fp xs.length P St ∧ (∀ b ∈ fp, b = it ∨ B b ≠ none) ∧ (∀ i h, Le B h.get? → (∃ o, h.get? it = some o ∧ S0 i o) → St i h) ∧
    (∀ i h, St i h → ∃ o, h.get? it = some o ∧ S0 i o) ∧ ∀ i v x, P i v → xs[i]? = some x → VR B v x

theorem Src.list {B : Fz} {l : Addr} {n : Nat} {vs : List Value} {xs : List MV} (hh : A.handled = none) (e : B l = some (lstO vs n)) (rs : VRs B vs xs) {it : Addr} (hne : l ≠ it) : Src prog w A B it (fun i o => o.cls = .type "list_iterator" ∧ o.data = .fields #[.ref l, .int i 0]) xs where
  seq := fun i o h => noSeq_of h.1 (by decide) (by decide)
  draws := ⟨[it, l], fun i x => vs.toArray[i]? = some x, fun i h => h.IsListIter it l i ∧ h.IsList l vs.toArray, by have := Draws.list (prog := prog) (w := w) hh it l hne vs.toArray; rwa [List.size_toArray, rs.length] at this, fun b hb => by
      simp only [List.mem_cons, List.not_mem_nil, or_false] at hb
      rcases hb with rfl | rfl
      · exact .inl rfl
      · exact .inr (by rw [e]; nofun),
    fun i h le st => ⟨st, _, le _ _ e, rfl, _, rfl⟩, fun i h st => st.1, fun i v x hP hx => by
      obtain ⟨v', ev, rv⟩ := rs.get hx
      have : vs[i]? = some v := by simpa using hP
      rw [ev] at this; cases this; exact rv⟩
theorem Src.tup {B : Fz} {l : Addr} {n : Nat} {vs : List Value} {xs : List MV} (hh : A.handled = none) (e : B l = some (tupO vs n)) (rs : VRs B vs xs) {it : Addr} (hne : l ≠ it) : Src prog w A B it (fun i o => o.cls = .type "tuple_iterator" ∧ o.data = .fields #[.ref l, .int i 0]) xs where
  seq := fun i o h => noSeq_of h.1 (by decide) (by decide)
  draws := ⟨[it, l], fun i v => vs.toArray[i]? = some v, fun i h => h.IsTupleIter it l i ∧ h.IsTuple l vs.toArray, (show Draws prog w A it [it, l] xs.length (fun i v => vs.toArray[i]? = some v) (fun i h => h.IsTupleIter it l i ∧ h.IsTuple l vs.toArray) from
    { live := fun _ _ st => let ⟨o, ho, _⟩ := st.1; ⟨o, ho⟩
      frame := fun _ _ _ st hk => ⟨st.1.at fun o e => hk it (by simp) o e, st.2.at fun o e => hk l (by simp) o e⟩
      item := fun i s Q E hi st hQ => by
        have hi' : i < vs.length := by rw [rs.length]; exact hi
        refine nextOf_tuple_item st.1 st.2 (x := vs[i]) (by simp [hi']) fun h' hit' hs' => ?_
        exact hQ _ h' s.toks (by simp [hi']) ⟨hit', st.2.extBut hs'.extBut hne⟩ hs'
      done := fun s Q E st hE => nextOf_tuple_end hh st.1 st.2 (by simp [rs.length]) hE }), fun b hb => by
      simp only [List.mem_cons, List.not_mem_nil, or_false] at hb
      rcases hb with rfl | rfl
      · exact .inl rfl
      · exact .inr (by rw [e]; nofun),
    fun i h le st => ⟨st, _, le _ _ e, rfl, _, rfl⟩, fun i h st => st.1, fun i v x hP hx => by
      obtain ⟨v', ev, rv⟩ := rs.get hx
      have : vs[i]? = some v := by simpa using hP
      rw [ev] at this; cases this; exact rv⟩
noncomputable def letters (t : Str) : List MV := t.cps.toList.map fun c => MV.str ⟨#[c]⟩
theorem Src.str {B : Fz} {t : Str} {tk : Tok} (hh : A.handled = none) {it : Addr} : Src prog w A B it (fun i o => o.cls = .type (strIterType t) ∧ o.data = .fields #[.str t tk, .int i 0]) (letters t) where
  seq := fun i o h => noSeq_of h.1 (by unfold strIterType; split <;> decide) (by unfold strIterType; split <;> decide)
  draws := by
    have el : (letters t).length = t.cps.size := by simp [letters]
    have fin : ∀ (i : Nat) v x, (∃ (c : Nat) (u : Tok), t.cps[i]? = some c ∧ v = Value.str ⟨#[c]⟩ u) → (letters t)[i]? = some x → VR B v x := by
      rintro i v x ⟨c, u, hc, rfl⟩ hx
      unfold letters at hx
      rw [List.getElem?_map] at hx
      have hc' : t.cps.toList[i]? = some c := by simpa using hc
      rw [hc'] at hx
      cases hx
      exact .str
    cases ha : t.cps.all (· < 128)
    · have e : strIterType t = "str_iterator" := by simp [strIterType, ha]
      rw [e, el]
      exact ⟨_, _, _, Draws.strWide hh it t tk, fun b hb => by simp only [List.mem_cons, List.not_mem_nil, or_false] at hb; exact .inl hb, fun i h le st => st, fun i h st => st, fin⟩
    · have e : strIterType t = "str_ascii_iterator" := by simp [strIterType, ha]
      rw [e, el]
      exact ⟨_, _, _, Draws.strAscii hh it t tk, fun b hb => by simp only [List.mem_cons, List.not_mem_nil, or_false] at hb; exact .inl hb, fun i h le st => st, fun i h st => st, fin⟩

noncomputable def enmItems (xs : List MV) : List MV := xs.zipIdx.map fun p => MV.tup [.int p.2, p.1]
theorem enmItems_get {xs : List MV} {i : Nat} {y : MV} (h : (enmItems xs)[i]? = some y) : ∃ x, xs[i]? = some x ∧ y = .tup [.int i, x] := by
  unfold enmItems at h
  rw [List.getElem?_map] at h
  obtain ⟨p, hp, rfl⟩ := Option.map_eq_some_iff.mp h
  rw [List.getElem?_zipIdx] at hp
  obtain ⟨x, hx, rfl⟩ := Option.map_eq_some_iff.mp hp
  exact ⟨x, hx, by simp⟩
noncomputable def enmOwn (e it : Addr) (St : Nat → Obj → Prop) (i : Nat) : Led := [(e, .prd fun o => ∃ old, o = { cls := .type "enumerate", dict := none, data := .fields #[.none, .bool false, .ref it, rawInt (i : Int), .none, old], slots := #[] }), (it, .prd (St i))]


noncomputable def isTupT : Expr → Bool
  | .Tuple _ _ _ => true
  | _ => false
theorem isTupT_ {t : Expr} (h : isTupT t = true) : ∃ a b c, t = .Tuple a b c := by
  cases t <;> first | exact ⟨_, _, _, rfl⟩ | cases h
theorem Itr.enum {t : Expr} (ht : isTupT t = true) {B : Fz} {e it : Addr} {S0 : Nat → Obj → Prop} {xs : List MV} (hh : A.handled = none) (S : Src prog w A.in1 B it S0 xs) : Itr prog w h₀ A t B (.ref e) (enmOwn e it S0) (enmItems xs) [] where
  ok := fun i => .cons (fun o h => by obtain ⟨old, rfl⟩ := h; exact noSeq_of (T := "enumerate") rfl (by decide) (by decide)) (.cons (fun o h => S.seq i o h) .nil)
  item := fun i y hy B' le led _ s K H k => by
    obtain ⟨x, hx, rfl⟩ := enmItems_get hy
    obtain ⟨fp, P, St, D, hfp, toSt, ofSt, hP⟩ := S.draws
    obtain ⟨o, eo, old, rfl⟩ := (H.own _ (.head _)).2
    have hit := (H.own _ (.tail _ (.head _))).2
    have hnd := List.nodup_cons.mp (show (e :: it :: led.map (·.1)).Nodup from H.nodup)
    have hne : e ≠ it := fun z => hnd.1 (z ▸ .head _)
    have hB' : B' e = none := (H.own _ (.head _)).1
    have hef : e ∉ fp := fun hm => by
      rcases hfp e hm with z | z
      · exact hne z
      · cases q : B e with
        | none => exact z q
        | some o => have := le _ _ q; rw [hB'] at this; cases this
    have hlt : i < xs.length := (List.getElem?_eq_some_iff.mp hx).1
    refine wpAny_pyNext_enum_itemD D eo (toSt i _ (le.trans H.keep) hit) hlt hne hef fun v h' tk hPv ho hst hT hsz hk => ?_
    have rv := (hP i v x hPv hx).mono le
    have hsz' : ∀ b o, s.heap.get? b = some o → b ≠ s.heap.objs.size := fun b o q => Nat.ne_of_lt (Heap.lt_size q)
    -- the ledger behind the step
    have H1 : Hp h₀ B' h' led := by
      refine H.tail.tail.ext fun b o q hb => hk b o (fun z => ?_) (fun z => ?_) q
      · rcases hb with hb | hb
        · exact hb (z ▸ hB')
        · exact hnd.1 (z ▸ .tail _ hb)
      · rcases hb with hb | hb
        · exact hb (z ▸ (H.own _ (.tail _ (.head _))).1)
        · exact (List.nodup_cons.mp hnd.2).1 (z ▸ hb)
    have hTn : B' s.heap.objs.size = none ∧ s.heap.objs.size ∉ (e :: it :: led.map (·.1)) := H.old (fresh_none _)
    have H2 : Hp h₀ B' h' ((e, .prd (· = { cls := .type "enumerate", dict := none, data := .fields #[rawInt s.heap.objs.size, .bool false, .ref it, rawInt ((i : Int) + 1), .none, v], slots := #[] })) :: (it, .prd (S0 (i + 1))) :: led) := by
      refine ⟨H1.base, H1.keep, H.nodup, fun p hp => ?_⟩
      rcases List.mem_cons.mp hp with rfl | hp
      · exact ⟨hB', _, ho, rfl⟩
      · rcases List.mem_cons.mp hp with rfl | hp
        · exact ⟨(H.own _ (.tail _ (.head _))).1, ofSt _ _ hst⟩
        · exact H1.own p hp
    have hle : Le B' (addB B' s.heap.objs.size (tupO [.int i tk, v] 0)) := addB_le hTn.1
    have H3 : Hp h₀ (addB B' s.heap.objs.size (tupO [.int i tk, v] 0)) h' ((e, .prd (· = { cls := .type "enumerate", dict := none, data := .fields #[rawInt s.heap.objs.size, .bool false, .ref it, rawInt ((i : Int) + 1), .none, v], slots := #[] })) :: (it, .prd (S0 (i + 1))) :: led) := by
      refine ⟨H2.base.trans hle, fun a o q => ?_, H2.nodup, fun p hp => ⟨?_, LC.mono hle (fun _ q => q) (H2.own p hp).2⟩⟩
      · unfold addB at q
        split at q
        · subst_vars; cases q; exact hT
        · exact H2.keep a o q
      · unfold addB
        rw [if_neg]
        · exact (H2.own p hp).1
        · intro z
          exact hTn.2 (z ▸ (show p.1 ∈ (e :: it :: led.map (·.1)) from List.mem_map_of_mem (f := (·.1)) hp))
    refine k _ h' _ _ _ hle H3 ⟨_, rfl, .tup addB_self (.cons .int (.cons (rv.mono hle) .nil)), fun s K H k2 => ?_⟩
    obtain ⟨o, eo2, rfl⟩ := (H.own _ (.head _)).2
    obtain ⟨a, b, c, rfl⟩ := isTupT_ ht
    refine wpAny_letOwnedTupleGo_enum eo2 fun h2 he2 hs2 => ?_
    have H2 : Hp h₀ _ h2 (enmOwn e it S0 (i + 1) ++ led) := H.turn0 (fun b o hb q => (hs2.2 b hb).trans q) ⟨_, he2, v, rfl⟩
    exact k2 _ h2 s.toks _ () (Le.refl _) H2 rfl
  done := fun B' le led _ s K H k => by
    obtain ⟨fp, P, St, D, hfp, toSt, ofSt, hP⟩ := S.draws
    obtain ⟨o, eo, old, rfl⟩ := (H.own _ (.head _)).2
    have hit := (H.own _ (.tail _ (.head _))).2
    have el : (enmItems xs).length = xs.length := by simp [enmItems]
    rw [el] at hit
    refine wpAny_pyNext_enum_endD D eo (toSt _ _ (le.trans H.keep) hit) fun h' hx => ?_
    have hnd := List.nodup_cons.mp (show (e :: it :: led.map (·.1)).Nodup from H.nodup)
    exact k B' h' s.toks _ _ (Le.refl _) (H.tail.drop0 hx) ⟨rfl, rfl⟩
  self := fun B' le led s K H k => by
    obtain ⟨o, eo, old, rfl⟩ := (H.own _ (.head _)).2
    exact wpAny_pyIter_enum eo (k B' s.heap s.toks _ _ (Le.refl _) H ⟨rfl, rfl⟩)
end
end Yy

end

section
set_option maxRecDepth 100000
namespace Yy
open PySem PySem.W PySem.Calls PyProof.Rows

section
variable {prog : Program} {w : World} {h₀ : Heap}
variable {A : Around} {env : Env} {m : Vars} {led : Led} {Q : Led → MV → Prop} {QT : Led → Bool → Prop} {Qn : Vars → Led → Prop} {Qr : Led → MV → Prop}

/-! ### an entry of the ledger is turned, found by search -/
inductive SetC : Led → Addr → MV → Led → Prop
  | head {c o y l} : SetC ((c, .cell o) :: l) c y ((c, .cell (some y)) :: l)
  | tail {p l c y l'} : SetC l c y l' → SetC (p :: l) c y (p :: l')
theorem SetC.split {l c y l'} (h : SetC l c y l') : ∃ o pre post, l = pre ++ (c, .cell o) :: post ∧ l' = pre ++ (c, .cell (some y)) :: post := by
  induction h with
  | head => exact ⟨_, [], _, rfl, rfl⟩
  | tail _ ih => obtain ⟨o, pre, post, e, e'⟩ := ih; exact ⟨o, _ :: pre, post, congrArg (_ :: ·) e, congrArg (_ :: ·) e'⟩
inductive SetL : Led → Addr → List MV → List MV → Led → Prop
  | head {a xs ys l} : SetL ((a, .list xs) :: l) a xs ys ((a, .list ys) :: l)
  | tail {p l a xs ys l'} : SetL l a xs ys l' → SetL (p :: l) a xs ys (p :: l')
theorem SetL.split {l a xs ys l'} (h : SetL l a xs ys l') : ∃ pre post, l = pre ++ (a, .list xs) :: post ∧ l' = pre ++ (a, .list ys) :: post := by
  induction h with
  | head => exact ⟨[], _, rfl, rfl⟩
  | tail _ ih => obtain ⟨pre, post, e, e'⟩ := ih; exact ⟨_ :: pre, post, congrArg (_ :: ·) e, congrArg (_ :: ·) e'⟩
/-- a list of the ledger goes (it is frozen) -/
inductive DelL : Led → Addr → List MV → Led → Prop
  | head {a xs l} : DelL ((a, .list xs) :: l) a xs l
  | tail {p l a xs l'} : DelL l a xs l' → DelL (p :: l) a xs (p :: l')
theorem DelL.split {l a xs l'} (h : DelL l a xs l') : ∃ pre post, l = pre ++ (a, .list xs) :: post ∧ l' = pre ++ post := by
  induction h with
  | head => exact ⟨[], _, rfl, rfl⟩
  | tail _ ih => obtain ⟨pre, post, e, e'⟩ := ih; exact ⟨_ :: pre, post, congrArg (_ :: ·) e, congrArg (_ :: ·) e'⟩

theorem As.cell' {x : Str} {pos} {y : MV} {c : Addr} {led' : Led} (hk : env.scope.kind = .function) (hl : env.kindOf x = some .cell) (hc : env.cells.lookup x = some c)
    (hs : SetC led c y led') (h : Qn m led') : As prog w h₀ A env m led (.Name x pos) y Qn := by
  obtain ⟨o, pre, post, rfl, rfl⟩ := hs.split
  exact As.cell hk hl hc ⟨o, pre, post, rfl, h⟩
theorem X1.assignC' {x : Str} {p' e pos} {c : Addr} (hk : env.scope.kind = .function) (hl : env.kindOf x = some .cell) (hc : env.cells.lookup x = some c)
    (h : E1 prog w h₀ A env m led e (fun l y => ∃ l', SetC l c y l' ∧ Qn m l'))
    (hs : swapsWith e (some (.Name x p')) pos.line env = Pure.pure false := by rfl) : X1 prog w h₀ A env m led (.Assign [.Name x p'] e pos) Qn Qr :=
  X1.assignC hk hl hc (h.mono fun l y ⟨l', hs, q⟩ => by obtain ⟨o, pre, post, rfl, rfl⟩ := hs.split; exact ⟨o, pre, post, rfl, q⟩) hs
theorem X1.store' {o i : Expr} {p' : Pos} {e pos}
    (h : E1 prog w h₀ A env m led e (fun l y => E1 prog w h₀ A env m l o (fun l1 ov => E1 prog w h₀ A env m l1 i (fun l2 iv => ∃ a k xs l3, ov = .obj a ∧ iv = .int k ∧ SetL l2 a xs (xs.set k.toNat y) l3 ∧ (0 ≤ k ∧ k.toNat < xs.length ∧ k < 2 ^ 63) ∧ Qn m l3))))
    (hs : swapsWith e (some (.Subscript o i p')) pos.line env = Pure.pure false := by rfl) : X1 prog w h₀ A env m led (.Assign [.Subscript o i p'] e pos) Qn Qr :=
  X1.store (h.mono fun l y q => q.mono fun l1 ov q => q.mono fun l2 iv q => q.elim fun a q => q.elim fun k q => q.elim fun xs q => q.elim fun l3 q =>
    q.2.2.1.split.elim fun pre s => s.elim fun post s => ⟨a, k, xs, pre, post, q.1, q.2.1, s.1, q.2.2.2.1, s.2 ▸ q.2.2.2.2⟩) hs

/-! ### cells are laid -/
noncomputable def cellsC (c : Nat → Addr) : Nat → List (Str × NameKind) → List (Str × Addr) → List (Str × Addr)
  | _, [], acc => acc
  | i, (n, k) :: r, acc => if k == .cell then cellsC c (i + 1) r ((n, c i) :: acc) else cellsC c i r acc
noncomputable def ledC (c : Nat → Addr) : Nat → List (Str × NameKind) → Led → Led
  | _, [], led => led
  | i, (n, k) :: r, led => if k == .cell then ledC c (i + 1) r ((c i, .cell none) :: led) else ledC c i r led

theorem cellsFrom_C (n₀ : Nat) : ∀ (names : List (Str × NameKind)) (i : Nat) (acc : List (Str × Addr)), cellsFrom (n₀ + i) names acc = cellsC (fun i => n₀ + i) i names acc
  | [], _, _ => rfl
  | (n, k) :: r, i, acc => by
    unfold cellsFrom cellsC
    split
    · exact cellsFrom_C n₀ r (i + 1) _
    · exact cellsFrom_C n₀ r i _
theorem pushCells_Hp {B : Fz} {p : Addr × LC} (n₀ : Nat) : ∀ (names : List (Str × NameKind)) (i : Nat) (h : Heap) (led : Led), h.objs.size = n₀ + i → Hp h₀ B h (p :: led) → Hp h₀ B (pushCells h names) (p :: ledC (fun i => n₀ + i) i names led)
  | [], _, _, _, _, H => H
  | (n, k) :: r, i, h, led, e, H => by
    unfold pushCells ledC
    split
    · refine pushCells_Hp n₀ r (i + 1) _ _ (by rw [Heap.size_push, e]; omega) ?_
      exact (Hp.new (c := .cell none) H (a := n₀ + i) (e ▸ fresh_none h) (fun b o q => Heap.get?_push_of_some _ q) ⟨_, by rw [← e]; exact Heap.get?_push_size _ rfl, rfl⟩).perm swap2
    · exact pushCells_Hp n₀ r i h led e H

/-! ### parameters are stored -/
inductive Bnd (env : Env) : Vars → Vars → Led → Vars → Led → Prop
  | nil {m l} : Bnd env [] m l m l
  | loc {x y r m l m' l'} : env.kindOf x = some .local → Bnd env r ((x, y) :: m) l m' l' → Bnd env ((x, y) :: r) m l m' l'
  | cell {x y r m l c l1 m' l'} : env.kindOf x = some .cell → env.cells.lookup x = some c → SetC l c y l1 → Bnd env r m l1 m' l' → Bnd env ((x, y) :: r) m l m' l'

theorem Bnd.sound (hk : env.scope.kind = .function) (f : Str × Value → PUnit → Sem (ForInStep PUnit)) (hf : ∀ n v u, f (n, v) u = (do storeName env n v; Pure.pure (.yield ⟨⟩))) {B : Fz}
    {binds m l m' l'} (hb : Bnd env binds m l m' l') : ∀ {bv : List (Str × Value)}, VRk B bv binds → ∀ {s : Shared} {K : PUnit → Shared → Prop}, Hp h₀ B s.heap (fled env m l) →
      (∀ h' tk, Hp h₀ B h' (fled env m' l') → K ⟨⟩ { s with heap := h', toks := tk }) → wpAny (model prog w) A (forIn bv ⟨⟩ f) K NoE s := by
  induction hb with
  | nil => intro bv rb s K H k; cases rb; rw [List.forIn_nil]; exact wpAny_pure (k s.heap s.toks H)
  | loc hl hb ih =>
    intro bv rb s K H k
    cases rb with | cons rv rs => ?_
    rw [List.forIn_cons, hf]
    exact wpAny_bind (wpAny_bind (store_loc hk hl H rv fun h1 tk1 H1 => wpAny_pure (ih rs (s := { s with heap := h1, toks := tk1 }) H1 k)))
  | cell hl hc hs hb ih =>
    intro bv rb s K H k
    cases rb with | cons rv rs => ?_
    rw [List.forIn_cons, hf]
    obtain ⟨o, pre, post, rfl, rfl⟩ := hs.split
    exact wpAny_bind (wpAny_bind (store_cell hk hl hc H rv fun h1 tk1 H1 => wpAny_pure (ih rs (s := { s with heap := h1, toks := tk1 }) H1 k)))

theorem newFn {B : Fz} {scope : Scope} {globals : Addr} {cl : List (Str × Addr)} {bv : List (Str × Value)} {binds : Vars} {qual : Str} {func : Option Addr} {code : Value} {around : Option Env} {builtins : Addr} {s : Shared} {K : Env → Shared → Prop}
    (hk : scope.kind = .function) (H : Hp h₀ B s.heap led) (rb : VRk B bv binds)
    (h : ∀ (c : Nat → Addr) (L : Addr), ∃ m l, Bnd (newEnv scope L globals (cellsC c 0 scope.names cl) qual func code around builtins) binds [] (ledC c 0 scope.names led) m l ∧
      ∀ h' tk, (∀ b o, h₀.get? b = some o → h'.get? b = some o) → Hp h₀ B h' ((L, .ns m) :: l) → K (newEnv scope L globals (cellsC c 0 scope.names cl) qual func code around builtins) { s with heap := h', toks := tk }) :
    wpAny (model prog w) A (newFunctionEnv scope globals cl bv qual func code around builtins) K NoE s := by
  obtain ⟨m, l, hb, kk⟩ := h (fun i => s.heap.objs.size + 1 + i) s.heap.objs.size
  have H1 : Hp h₀ B (s.heap.push { cls := .type (if around.isSome then "dict" else "frame"), data := .dict #[] }) ((s.heap.objs.size, .ns []) :: led) :=
    H.new (fresh_none _) (fun b o e => Heap.get?_push_of_some _ e) ⟨_, Heap.Ns.new s.heap _, fun x y e => by cases e⟩
  have H2 := pushCells_Hp (s.heap.objs.size + 1) scope.names 0 _ _ (by rw [Heap.size_push]) H1
  unfold newFunctionEnv
  refine wpAny_bind (wpAny_alloc ?_)
  refine wpAny_bind (wpAny_layCells _ (fun name kind cells => by cases hkc : kind == NameKind.cell <;> simp [hkc]) _ _ _ _ ?_)
  rw [show ({ s with heap := s.heap.push { cls := .type (if around.isSome then "dict" else "frame"), data := .dict #[] } } : Shared).heap.objs.size = s.heap.objs.size + 1 + 0 from Heap.size_push .., cellsFrom_C]
  have fin : ∀ env : Env, env = newEnv scope s.heap.objs.size globals (cellsC (fun i => s.heap.objs.size + 1 + i) 0 scope.names cl) qual func code around builtins →
      wpAny (model prog w) A (do forIn bv PUnit.unit (fun (x : Str × Value) (_ : PUnit) => (do storeName env x.1 x.2; Pure.pure (ForInStep.yield PUnit.unit))); Pure.pure env) K NoE { s with heap := pushCells (s.heap.push { cls := .type (if around.isSome then "dict" else "frame"), data := .dict #[] }) scope.names } := by
    rintro env rfl
    have hk' : (newEnv scope s.heap.objs.size globals (cellsC (fun i => s.heap.objs.size + 1 + i) 0 scope.names cl) qual func code around builtins).scope.kind = .function := by cases around <;> exact hk
    have hL : (newEnv scope s.heap.objs.size globals (cellsC (fun i => s.heap.objs.size + 1 + i) 0 scope.names cl) qual func code around builtins).locals = s.heap.objs.size := by cases around <;> rfl
    refine wpAny_bind (hb.sound hk' _ (fun n v u => rfl) rb (s := { s with heap := _ }) (by rw [fled, hL]; exact H2) fun h' tk H3 => wpAny_pure ?_)
    rw [fled, hL] at H3
    exact kk h' tk (fun b o e => H3.keep _ _ (H3.base _ _ e)) H3
  cases around with
  | none => exact fin _ rfl
  | some o => exact fin _ rfl

/-- what is dropped at the end -/
noncomputable def Dr (Q : Led → MV → Prop) : Led → MV → Prop := fun l x => ∃ l2, l2.Sublist l ∧ Q l2 x


/-- a def's body, from the call on -/
theorem callX {B : Fz} {f : Addr} {o : Obj} {name qual : Str} {params : Arguments} {body : List Stmt} {scope : Scope} {cl : List (Str × Addr)} {dV kV doc pm : Value} {an : Option Addr} {cdv ct : Value} {binds : Vars} {bv : List (Str × Value)} {d : Nat} {ar : Args} {s : Shared} {R : Result → Shared → Prop} (hn : h₀.NoLimit)
    (ho : s.heap.get? f = some o) (hd : o.data = .func (fnX name qual params body scope cl dV kV doc pm an cdv ct)) (hcd : s.heap.CodeRec cdv qual) (hr : Rm A (d + 1))
    (hb : BindsTo s (fnX name qual params body scope cl dV kV doc pm an cdv ct) ar bv) (rb : VRk B bv binds) (H : Hp h₀ B s.heap led)
    (h : ∀ (c : Nat → Addr) L A', Rm A' d → ∃ m l, Bnd (envX qual scope L f cdv (cellsC c 0 scope.names cl)) binds [] (ledC c 0 scope.names led) m l ∧
      Xs prog w h₀ A' (envX qual scope L f cdv (cellsC c 0 scope.names cl)) m l body (fun _ l => Dr Q l .none) (Dr Q))
    (k : ∀ B' h' tk led' v, Le B B' → Hp h₀ B' h' led' → VP Q B' led' v → R (.ok (.ret v)) { s with heap := h', toks := tk })
    (hco : scope.isCoroutine = false := by rfl) (hgen : scope.isGenerator = false := by rfl) (hk : scope.kind = .function := by rfl) :
    codeAny (model prog w) A (.call (.ref f) ar) R s := by
  refine codeAny_call_function (fd := fnX name qual params body scope cl dV kV doc pm an cdv ct) hr.lt ho hd hco hgen rfl hcd (hb _ _ _ _ ?_)
  refine wpAny_mono (newFn (A := A.in1) (K := fun env s₂ => s₂.heap.NoLimit ∧ codeAny (model prog w) A (.func body env) R s₂) hk H rb fun c L => ?_) (fun _ _ x => x) fun _ _ q => q.elim
  have hr' : Rm (A.deeper (envX qual scope L f cdv (cellsC c 0 scope.names cl))) d := ⟨hr.handled, hr.in3.1, hr.in3.2⟩
  obtain ⟨m, l, hbd, hx⟩ := h c L _ hr'
  refine ⟨m, l, hbd, fun h1 tk1 hk1 H1 => ⟨hn.keeps hk1, codeAny_func ?_⟩⟩
  refine wpAny_mono (hx B _ (fun fl s' => (match fl with | .ret v => R (.ok (.ret v)) s' | .next => R (.ok (.ret .none)) s' | _ => False)) H1 ?_) (fun fl s' q => ?_) fun _ _ q => q.elim
  · rintro B2 h2 tk2 l fl le2 H2 p
    cases fl with
    | next => obtain ⟨m', l', rfl, l2, hs, q⟩ := p; exact k B2 h2 tk2 l2 _ le2 (H2.tail.sub hs) ⟨.none, .none, q⟩
    | ret v => obtain ⟨x, m', l', rfl, rv, l2, hs, q⟩ := p; exact k B2 h2 tk2 l2 _ le2 (H2.tail.sub hs) ⟨x, rv, q⟩
    | _ => exact p.elim
  · cases fl with
    | next => exact q
    | ret v => exact q
    | _ => exact q.elim

theorem Cl.defC {f : Addr} {oc : Value} {od : Option Addr} {name qual : Str} {params : Arguments} {body : List Stmt} {scope : Scope} {cl : List (Str × Addr)} {dV kV doc pm : Value} {an : Option Addr} {cdv ct : Value} {sl : Array (Option Value)} {args : List MV} {kw binds : Vars} {d : Nat} (hn : h₀.NoLimit)
    (hf : h₀.get? f = some ⟨oc, od, .func (fnX name qual params body scope cl dV kV doc pm an cdv ct), sl⟩ ∨ (f, LC.prd (· = ⟨oc, od, .func (fnX name qual params body scope cl dV kV doc pm an cdv ct), sl⟩)) ∈ led) (hcd : CodeAt h₀ led cdv qual) (hr : Rm A (d + 1))
    (hbind : Binds h₀ (fnX name qual params body scope cl dV kV doc pm an cdv ct) args kw binds)
    (h : ∀ (c : Nat → Addr) L A', Rm A' d → ∃ m l, Bnd (envX qual scope L f cdv (cellsC c 0 scope.names cl)) binds [] (ledC c 0 scope.names led) m l ∧
      Xs prog w h₀ A' (envX qual scope L f cdv (cellsC c 0 scope.names cl)) m l body (fun _ l => Dr Q l .none) (Dr Q))
    (hco : scope.isCoroutine = false := by rfl) (hgen : scope.isGenerator = false := by rfl) (hk : scope.kind = .function := by rfl) : Cl prog w h₀ A led (.obj f) args kw Q := by
  refine ⟨fnIs hf, fun B fv vs ks rf rs rk s K H k => ?_⟩
  cases rf
  obtain ⟨bv, hb, rb⟩ := hbind B s vs ks (H.base.trans H.keep) rs rk
  refine wpAny_call (callX (d := d) hn (fnAt hf H) rfl (hcd.sound H) hr hb rb H h (fun B' h' tk led' v le H' p => ?_) hco hgen hk)
  exact k B' h' tk led' v le H' p
end
end Yy

end

section
set_option maxRecDepth 100000
namespace Yy
open PySem PySem.W PySem.Calls PyProof.Rows

section
variable {prog : Program} {w : World} {h₀ : Heap}
variable {A : Around} {env : Env} {m : Vars} {led : Led} {Q : Led → MV → Prop} {QT : Led → Bool → Prop} {Qn : Vars → Led → Prop} {Qr : Led → MV → Prop}

/-! ### append -/
theorem append_own {B : Fz} {a : Addr} {xs : List MV} {v : Value} {y : MV} {pre post : Led} {s : Shared} {K : Value → Shared → Prop} (H : Hp h₀ B s.heap (pre ++ (a, .list xs) :: post)) (rv : VR B v y) (hz : xs.length ≤ sizeLine)
    (k : ∀ h', Hp h₀ B h' (pre ++ (a, .list (xs ++ [y])) :: post) → K .none { s with heap := h' }) : wpAny (model prog w) A (PySem.call (.builtin "list.append") [.ref a, v]) K NoE s := by
  obtain ⟨l, n, e, rs⟩ := (H.own (a, .list xs) (by simp)).2
  refine wpAny_list_append_plain (items := l.toArray) ⟨n, e⟩ (fun h' hl hs => ?_) (by rw [List.size_toArray, rs.length]; exact hz)
  obtain ⟨n', e'⟩ := hl
  refine k h' (Hp.turn H (fun b o hb q => (hs.2 b hb).trans q) ⟨l ++ [v], n', ?_, rs.append (.cons rv .nil)⟩)
  rw [e']; simp

/-! ### comprehensions -/
noncomputable def cEnv (scope : Scope) (cl : List (Str × Addr)) (c : Nat → Addr) (C : Addr) (env : Env) : Env :=
  { scope := relabel scope env, locals := C, globals := env.globals, cells := cellsC c 0 scope.names cl, qual := env.qual, func := none, code := env.code, frame := env.frame, builtins := env.builtins }

noncomputable def TestsR (prog : Program) (w : World) (h₀ : Heap) (A : Around) (env : Env) : List Expr → Vars → Led → (Led → Bool → Prop) → Prop
  | [], _, l, Q => Q l true
  | [c], m, l, Q => T1 prog w h₀ A env m l c Q
  | _, _, _, _ => False

noncomputable def CompR (prog : Program) (w : World) (h₀ : Heap) (A : Around) (cenv : Env) (t : Expr) (ifs : List Expr) (elt : Expr) (D : Addr) (E : Led) (Q : Led → List MV → Prop) : List MV → List MV → Vars → Led → Prop
  | [], acc, _, led => (∀ e ∈ E, e ∈ led) ∧ Q led acc
  | y :: ys, acc, m, led => (∀ e ∈ E, e ∈ led) ∧ As prog w h₀ A cenv m ((D, .list acc) :: led) t y fun m' l' => TestsR prog w h₀ A cenv ifs m' l' fun l2 b =>
      (b = true → acc.length ≤ sizeLine ∧ E1 prog w h₀ A cenv m' l2 elt fun l3 x => ∃ l4, l3 = (D, .list acc) :: l4 ∧ CompR prog w h₀ A cenv t ifs elt D E Q ys (acc ++ [x]) m' l4) ∧
      (b = false → ∃ l4, l2 = (D, .list acc) :: l4 ∧ CompR prog w h₀ A cenv t ifs elt D E Q ys acc m' l4)

theorem TestsR.sound {cenv : Env} {ifs : List Expr} {QT : Led → Bool → Prop} (h : TestsR prog w h₀ A cenv ifs m led QT) (B : Fz) :
    Tr prog w h₀ B A (fled cenv m led) (forIn ifs true fun c r => if r = true then do let ok ← isTrue c cenv (eval c cenv); Pure.pure (ForInStep.yield ok) else Pure.pure (ForInStep.yield r)) (TP cenv m QT) := fun s K H k => by
  match ifs, h with
  | [], h => exact wpAny_tests_nil (k B s.heap s.toks _ _ (Le.refl _) H ⟨led, rfl, h⟩)
  | [c], h => exact wpAny_tests_one (h B s _ H k)
  | _ :: _ :: _, h => exact h.elim

noncomputable def compBody (t : Expr) (ifs : List Expr) (elt : Expr) (acc : Value) (env : Env) (v : Value) : Sem Unit := do
  assign t env v
  let ok ← forIn ifs true fun c r => if r = true then do let ok ← isTrue c env (eval c env); Pure.pure (ForInStep.yield ok) else Pure.pure (ForInStep.yield r)
  if ok then
    let _ ← PySem.call (.builtin "list.append") [acc, ← eval elt env]

theorem compBody_sound {cenv : Env} {E : Led} {t : Expr} {ifs : List Expr} {elt : Expr} {D : Addr} {QL : Led → List MV → Prop} {y : MV} {ys acc : List MV} (h : CompR prog w h₀ A cenv t ifs elt D E QL (y :: ys) acc m led) (B : Fz) {v : Value} (rv : VR B v y) :
    Tr prog w h₀ B A (fled cenv m ((D, .list acc) :: led)) (compBody t ifs elt (.ref D) cenv v) (fun _ l _ => ∃ m' acc' l', l = fled cenv m' ((D, .list acc') :: l') ∧ CompR prog w h₀ A cenv t ifs elt D E QL ys acc' m' l') := fun s K H k => by
  unfold compBody
  refine wpAny_bind (h.2 B v rv s _ H ?_)
  rintro B1 h1 tk1 _ u le1 H1 ⟨m1, l1, rfl, q1⟩
  refine wpAny_bind (TestsR.sound q1 B1 _ _ H1 ?_)
  rintro B2 h2 tk2 _ b le2 H2 ⟨l2, rfl, q2, q3⟩
  cases b with
  | false =>
    obtain ⟨l4, rfl, q⟩ := q3 rfl
    exact wpAny_pure (k B2 h2 tk2 _ () (le1.trans le2) H2 ⟨m1, acc, l4, rfl, q⟩)
  | true =>
    obtain ⟨hz, q⟩ := q2 rfl
    refine wpAny_bind (q B2 _ _ H2 ?_)
    rintro B3 h3 tk3 _ x le3 H3 ⟨z, l3, rfl, rx, l4, rfl, q4⟩
    refine wpAny_bind (append_own (pre := [(cenv.locals, .ns m1)]) (s := { s with heap := h3, toks := tk3 }) H3 rx hz fun h4 H4 => wpAny_pure ?_)
    exact k B3 h4 tk3 _ () ((le1.trans le2).trans le3) H4 ⟨m1, acc ++ [z], l4, rfl, q4⟩

theorem comp_loop {cenv : Env} {E : Led} {t iter : Expr} {ifs : List Expr} {elt : Expr} {scope : Scope} {pos : Pos} {D : Addr} {QL : Led → List MV → Prop} {B : Fz} {it : Value} {own : Nat → Led} {items : List MV} {R : Result → Shared → Prop} {s : Shared}
    (I : Itr prog w h₀ A t B it own items E) (H : Hp h₀ B s.heap (own 0 ++ fled cenv m ((D, .list []) :: led))) (h : CompR prog w h₀ A cenv t ifs elt D E QL items [] m led)
    (k : ∀ B' h' tk m' acc l, Le B B' → Hp h₀ B' h' (fled cenv m' ((D, .list acc) :: l)) → QL l acc → R (.ok .next) { s with heap := h', toks := tk }) :
    codeAny (model prog w) A (.compLoop (.ListComp elt [⟨t, iter, ifs, 0⟩] scope pos) 0 it (.ref D) cenv) R s := by
  let J : Nat → Shared → Prop := fun n s' => ∃ i B' h' tk m' acc l, s' = { s with heap := h', toks := tk } ∧ n = items.length + 1 - i ∧ i ≤ items.length ∧ Le B B' ∧ Hp h₀ B' h' (own i ++ fled cenv m' ((D, .list acc) :: l)) ∧ CompR prog w h₀ A cenv t ifs elt D E QL (items.drop i) acc m' l
  refine codeAny_loop rfl J ?_ (items.length + 1) ⟨0, B, s.heap, s.toks, m, [], led, rfl, rfl, Nat.zero_le _, Le.refl _, H, h⟩
  rintro n s' ⟨i, B2, h2, tk2, m2, acc, l2, rfl, rfl, hi, le2, H2, q2⟩
  show wpAny _ A ((compTurn (.ListComp elt [⟨t, iter, ifs, 0⟩] scope pos) 0 it (.ref D) cenv).onRaise (fun x => do noteFrame x cenv; theTreesLotGoes x)) _ _ _
  refine wpAny_noted ?_
  rw [compTurn_list]
  refine wpAny_mono (?_ : wpAny (model prog w) A _ _ NoE _) (fun _ _ x => x) fun _ _ q => False.elim q
  refine wpAny_bind (wpAny_standAt (wpAny_bind ?_))
  cases hx : items[i]? with
  | none =>
    have hii : i = items.length := Nat.le_antisymm hi (by simpa using hx)
    subst hii
    simp only [List.drop_length] at q2
    refine I.done B2 le2 _ (fun e he => List.mem_cons_of_mem _ (List.mem_cons_of_mem _ (q2.1 e he))) { s with heap := h2, toks := tk2 } _ H2 ?_
    rintro B3 h3 tk3 l3 r le3 H3 ⟨rfl, rfl⟩
    exact wpAny_pure (k B3 h3 tk3 m2 acc l2 (le2.trans le3) H3 q2.2)
  | some x =>
    have hlt := (List.getElem?_eq_some_iff.mp hx).1
    have hd : items.drop i = x :: items.drop (i + 1) := by
      rw [List.drop_eq_getElem_cons hlt, (List.getElem?_eq_some_iff.mp hx).2]
    rw [hd] at q2
    refine I.item i x hx B2 le2 _ (fun e he => List.mem_cons_of_mem _ (List.mem_cons_of_mem _ (q2.1 e he))) { s with heap := h2, toks := tk2 } _ H2 ?_
    rintro B3 h3 tk3 l3 r le3 H3 ⟨v, rfl, rv, go⟩
    refine wpAny_bind (go _ _ H3 ?_)
    rintro B4 h4 tk4 l4 u le4 H4 rfl
    have fin : ∀ t1 : Sem Fin, t1 = (compBody t ifs elt (.ref D) cenv v >>= fun _ => again (.compLoop (.ListComp elt [⟨t, iter, ifs, 0⟩] scope pos) 0 it (.ref D) cenv)) →
        wpAny (model prog w) A t1 (fun fin s' => match fin with | .done f => R (.ok f) s' | .again c' => c' = (.compLoop (.ListComp elt [⟨t, iter, ifs, 0⟩] scope pos) 0 it (.ref D) cenv) ∧ ∃ m, m < items.length + 1 - i ∧ J m s') NoE { s with heap := h4, toks := tk4 } := by
      rintro t1 rfl
      refine wpAny_bind (Tr.frames (fun _ _ _ _ _ _ _ p => p) (I.ok (i + 1)) (fun B' le => compBody_sound q2 B' ((rv.mono le4).mono le)) { s with heap := h4, toks := tk4 } _ H4 ?_)
      rintro B5 h5 tk5 l5 u5 le5 H5 ⟨l5', rfl, m5, acc5, l6, rfl, q5⟩
      exact wpAny_pure ⟨rfl, items.length + 1 - (i + 1), Nat.sub_lt_sub_left (Nat.lt_succ_of_le hi) (Nat.lt_succ_self i), i + 1, B5, h5, tk5, m5, acc5, l6, rfl, rfl, hlt, (((le2.trans le3).trans le4).trans le5), H5, q5⟩
    refine fin _ ?_
    unfold compBody
    simp only [bind_assoc]
    congr 1
    funext u1
    congr 1
    funext ok
    cases ok <;> simp

theorem ledC_app (c : Nat → Addr) : ∀ (n : List (Str × NameKind)) (i : Nat) (a b : Led), ledC c i n (a ++ b) = ledC c i n a ++ b
  | [], _, _, _ => rfl
  | (x, kd) :: r, i, a, b => by
    unfold ledC
    split
    · exact ledC_app c r (i + 1) ((c i, .cell none) :: a) b
    · exact ledC_app c r i a b

/-- what surrounds a comprehension: the cells that it takes, its own names -/
structure CompOk (scope : Scope) (cl : List (Str × Addr)) (env : Env) : Prop where
  clos : closureFor scope env = Pure.pure cl
  kind : scope.kind = .function
  names : ∀ x ∈ scope.names, x.2 = .local → scope.names.lookup x.1 = some .local

theorem comp_all {t iter : Expr} {ifs : List Expr} {elt : Expr} {scope : Scope} {cl : List (Str × Addr)} {pos ipos : Pos} {use : Option (Value → Sem Unit)} {B : Fz} {s : Shared} {K : Value → Shared → Prop} (C : CompOk scope cl env)
    (hs : ∀ x, foldedSetIterable iter env x = Pure.pure x) {QL : Addr → Led → List MV → Prop}
    (h : It1O prog w h₀ A env m led t iter (fun l items E => ∀ c C D, CompR prog w h₀ A (cEnv scope cl c C env) t ifs elt D E (QL D) items [] [] (ledC c 0 scope.names (fled env m l))))
    (H : Hp h₀ B s.heap (fled env m led))
    (k : ∀ B' h' tk C D m' acc l, Le B B' → Hp h₀ B' h' ((C, .ns m') :: (D, .list acc) :: l) → QL D l acc → compPost (model prog w) A NoE use K (.ref D) C (.ok .next) { s with heap := h', toks := tk }) :
    wpAny (model prog w) A (comprehension (.ListComp elt [⟨t, iter, ifs, 0⟩] scope pos) scope env ipos (newList []) false (eval iter env) use) K NoE s := by
  refine wpAny_comprehension_free (g := ⟨t, iter, ifs, 0⟩) (gs := []) rfl hs C.clos C.kind C.names (h B s _ H ?_)
  intro B1 h1 tk1 led1 own items it E le1 H1 I q
  refine wpAny_newList ?_ (by simp [sizeLine])
  have e1 : (h1.push { cls := .type "list", data := .seq ([] : List Value).toArray }).get? h1.objs.size = some (lstO [] 0) := Heap.get?_push_size _ rfl
  have H2 : Hp h₀ B1 (h1.push { cls := .type "list", data := .seq ([] : List Value).toArray }) ((h1.objs.size, .list []) :: (own 0 ++ fled env m led1)) := H1.new (fresh_none _) (fun b o e => Heap.get?_push_of_some _ e) ⟨[], 0, e1, .nil⟩
  refine newFn (binds := []) (s := { s with heap := _, toks := tk1 }) C.kind H2 .nil fun c L => ⟨[], _, .nil, fun h3 tk3 _ H3 => ?_⟩
  have H4 : Hp h₀ B1 h3 (own 0 ++ (L, .ns []) :: (h1.objs.size, .list []) :: ledC c 0 scope.names (fled env m led1)) := by
    refine H3.perm ?_
    have e1 : ledC c 0 scope.names ((h1.objs.size, .list []) :: (own 0 ++ fled env m led1)) = ledC c 0 scope.names [] ++ ((h1.objs.size, .list []) :: (own 0 ++ fled env m led1)) := ledC_app c scope.names 0 [] _
    have e2 : ledC c 0 scope.names (fled env m led1) = ledC c 0 scope.names [] ++ fled env m led1 := ledC_app c scope.names 0 [] _
    rw [e1, e2]
    refine gen (ledC c 0 scope.names []) fun N => ?_
    refine gen (fled env m led1) fun F => ?_
    refine gen (own 0) fun O => ?_
    have p1 : (N ++ ((h1.objs.size, LC.list []) :: (O ++ F))).Perm ((h1.objs.size, LC.list []) :: (N ++ (O ++ F))) := List.perm_middle
    have p2 : (N ++ (O ++ F)).Perm (O ++ (N ++ F)) := by
      rw [← List.append_assoc, ← List.append_assoc]; exact List.perm_append_comm.append_right F
    have p3 : ((L, LC.ns []) :: (N ++ ((h1.objs.size, LC.list []) :: (O ++ F)))).Perm ([(L, LC.ns []), (h1.objs.size, LC.list [])] ++ (O ++ (N ++ F))) := (p1.trans (p2.cons _)).cons _
    refine p3.trans ?_
    have p4 : ([(L, LC.ns []), (h1.objs.size, LC.list [])] ++ (O ++ (N ++ F))).Perm (O ++ ([(L, LC.ns []), (h1.objs.size, LC.list [])] ++ (N ++ F))) := by
      have := (List.perm_append_comm (l₁ := [(L, LC.ns []), (h1.objs.size, LC.list [])]) (l₂ := O)).append_right (N ++ F)
      simpa [List.append_assoc] using this
    exact p4
  have fin : ∀ (s5 : Shared) (H5 : Hp h₀ B1 s5.heap (own 0 ++ (L, .ns []) :: (h1.objs.size, .list []) :: ledC c 0 scope.names (fled env m led1))), (∃ h' tk, s5 = { s with heap := h', toks := tk }) →
      codeAny (model prog w) A (.compLoop (.ListComp elt [⟨t, iter, ifs, 0⟩] scope pos) 0 it (.ref h1.objs.size) (cEnv scope cl c L env)) (compPost (model prog w) A NoE use K (.ref h1.objs.size) L) s5 := by
    rintro s5 H5 ⟨h', tk, rfl⟩
    refine comp_loop (cenv := cEnv scope cl c L env) I H5 (q c L _) fun B6 h6 tk6 m6 acc6 l6 le6 H6 q6 => ?_
    exact k B6 h6 tk6 L _ m6 acc6 l6 (le1.trans le6) H6 q6
  refine codeAny_compStart_list (fin _ H4 ⟨_, _, rfl⟩) ?_
  refine wpAny_mono (I.self B1 (Le.refl _) _ { s with heap := h3, toks := tk3 } (fun it' s' => codeAny (model prog w) A (.compLoop (.ListComp elt [⟨t, iter, ifs, 0⟩] scope pos) 0 it' (.ref h1.objs.size) (cEnv scope cl c L env)) (compPost (model prog w) A NoE use K (.ref h1.objs.size) L) s') H4 ?_) (fun _ _ x => x) fun _ _ q => False.elim q
  rintro B5 h5 tk5 l5 r le5 H5 ⟨rfl, rfl⟩
  have fin' : ∀ (s5 : Shared) (H5 : Hp h₀ B5 s5.heap (own 0 ++ (L, .ns []) :: (h1.objs.size, .list []) :: ledC c 0 scope.names (fled env m led1))), (∃ h' tk, s5 = { s with heap := h', toks := tk }) →
      codeAny (model prog w) A (.compLoop (.ListComp elt [⟨t, iter, ifs, 0⟩] scope pos) 0 r (.ref h1.objs.size) (cEnv scope cl c L env)) (compPost (model prog w) A NoE use K (.ref h1.objs.size) L) s5 := by
    rintro s5 H5 ⟨h', tk, rfl⟩
    refine comp_loop (cenv := cEnv scope cl c L env) (I.mono le5) H5 (q c L _) fun B6 h6 tk6 m6 acc6 l6 le6 H6 q6 => ?_
    exact k B6 h6 tk6 L _ m6 acc6 l6 ((le1.trans le5).trans le6) H6 q6
  exact fin' _ H5 ⟨_, _, rfl⟩

theorem newL_led {B : Fz} {xs : List MV} {s : Shared} {D : Addr} {l2 l3 : Led} {K : Value → Shared → Prop} (h : NewL l3 xs Q) (hs : (fled env m l3).Sublist l2) (H : Hp h₀ B s.heap ((D, .list xs) :: l2))
    (k : ∀ B' led' r, Le B B' → Hp h₀ B' s.heap led' → EP env m Q B' led' r → K r s) : K (.ref D) s := by
  have H1 : Hp h₀ B s.heap ((D, .list xs) :: fled env m l3) := H.sub (hs.cons_cons _)
  rcases h.2 with q | q
  · obtain ⟨B2, le, H2, r⟩ := H1.freeze
    exact k B2 _ _ le H2 ⟨_, l3, rfl, r, q⟩
  · exact k B _ _ (Le.refl _) (H1.perm swap2) ⟨_, _, rfl, .obj, q D⟩

theorem E1.compO {t iter : Expr} {ifs : List Expr} {elt : Expr} {scope : Scope} {cl : List (Str × Addr)} {pos : Pos} (C : CompOk scope cl env)
    (h : It1O prog w h₀ A env m led t iter (fun l items E => ∀ c C D, CompR prog w h₀ A (cEnv scope cl c C env) t ifs elt D E (fun l2 xs => ∃ l3, (fled env m l3).Sublist l2 ∧ NewL l3 xs Q) items [] [] (ledC c 0 scope.names (fled env m l))))
    (hs : ∀ x, foldedSetIterable iter env x = Pure.pure x := by intro _; rfl) : E1 prog w h₀ A env m led (.ListComp elt [⟨t, iter, ifs, 0⟩] scope pos) Q := fun B s K H k => by
  rw [eval_ListComp]
  refine comp_all (use := Option.none) C hs h H ?_
  rintro B1 h1 tk1 C' D m' acc l le1 H1 ⟨l3, hsub, hN⟩
  obtain ⟨f, hn, _⟩ := H1.ns
  refine ⟨f, hn, fun h2 hs2 => ?_⟩
  have H2 : Hp h₀ B1 h2 ((D, .list acc) :: l) := H1.drop0 fun b o hb q => (hs2.2 b hb).trans q
  exact newL_led (s := { s with heap := h2, toks := tk1 }) hN hsub H2 fun B3 led3 r le3 H3 p => k B3 h2 tk1 led3 r (le1.trans le3) H3 p

theorem E1.comp {t iter : Expr} {ifs : List Expr} {elt : Expr} {scope : Scope} {cl : List (Str × Addr)} {pos : Pos} (C : CompOk scope cl env)
    (h : It1 prog w h₀ A env m led t iter (fun l items => ∀ c C D, CompR prog w h₀ A (cEnv scope cl c C env) t ifs elt D [] (fun l2 xs => ∃ l3, (fled env m l3).Sublist l2 ∧ NewL l3 xs Q) items [] [] (ledC c 0 scope.names (fled env m l))))
    (hs : ∀ x, foldedSetIterable iter env x = Pure.pure x := by intro _; rfl) : E1 prog w h₀ A env m led (.ListComp elt [⟨t, iter, ifs, 0⟩] scope pos) Q := E1.compO C h.o hs

/-- x = [ ... ]: the name is stored while the comprehension's own names still stand -/
theorem X1.assignComp {x : Str} {p' : Pos} {t iter : Expr} {ifs : List Expr} {elt : Expr} {scope : Scope} {cl : List (Str × Addr)} {pos spos : Pos} (C : CompOk scope cl env) (hk : env.scope.kind = .function) (hl : env.kindOf x = some .local)
    (h : It1 prog w h₀ A env m led t iter (fun l items => ∀ c C D, CompR prog w h₀ A (cEnv scope cl c C env) t ifs elt D [] (fun l2 xs => ∃ l3, (fled env m l3).Sublist l2 ∧ NewL l3 xs (fun l4 y => Qn ((x, y) :: m) l4)) items [] [] (ledC c 0 scope.names (fled env m l))))
    (hs : ∀ x, foldedSetIterable iter env x = Pure.pure x := by intro _; rfl)
    (hsw : swapsWith (.ListComp elt [⟨t, iter, ifs, 0⟩] scope pos) (some (.Name x p')) spos.line env = Pure.pure true := by rfl) :
    X1 prog w h₀ A env m led (.Assign [.Name x p'] (.ListComp elt [⟨t, iter, ifs, 0⟩] scope pos) spos) Qn Qr := fun B s K H k => by
  rw [exec_Assign_Name_used _ _ _ _ hsw]
  refine wpAny_bind (wpAny_standAt (wpAny_bind ?_))
  show wpAny _ A (do let _ ← comprehension (.ListComp elt [⟨t, iter, ifs, 0⟩] scope pos) scope env _ (newList []) false (eval iter env) (some (PySem.assign (.Name x p') env))) _ _ s
  refine wpAny_bind (wpAny_mono (comp_all (use := some (PySem.assign (.Name x p') env)) (K := fun _ s' => K .next s') C hs h.o H ?_) (fun _ s' hq => wpAny_pure (wpAny_pure hq)) fun _ _ e => e)
  rintro B1 h1 tk1 C' D m' acc l le1 H1 ⟨l3, hsub, hz, hN⟩
  show wpAny _ A (PySem.assign (.Name x p') env (.ref D)) _ _ _
  have H2 : Hp h₀ B1 h1 ((D, .list acc) :: (C', .ns m') :: fled env m l3) := (H1.sub (((hsub.cons_cons _)).cons_cons _)).perm swap2
  have done : ∀ B2 (y : MV) (l4 : Led), Le B1 B2 → Hp h₀ B2 h1 ((C', .ns m') :: fled env m l4) → VR B2 (.ref D) y → Qn ((x, y) :: m) l4 →
      wpAny (model prog w) A (PySem.assign (.Name x p') env (.ref D)) (fun _ s'' => ∃ f, s''.heap.Ns C' f ∧ ∀ h', Heap.SameBut C' s''.heap h' → K .next { s'' with heap := h' }) NoE { s with heap := h1, toks := tk1 } := by
    intro B2 y l4 le2 H3 ry q
    refine PySem.wpAny_assign_Name (store_loc hk hl (led := (C', .ns m') :: l4) (H3.perm swap2) ry fun h4 tk4 H4 => ?_)
    obtain ⟨f, hn, _⟩ := (H4.own (C', .ns m') (by simp)).2
    refine ⟨f, hn, fun h5 hs5 => ?_⟩
    have H5 : Hp h₀ B2 h5 (fled env ((x, y) :: m) l4) := (H4.perm swap2).drop0 fun b o hb q => (hs5.2 b hb).trans q
    exact k B2 h5 tk4 _ .next (le1.trans le2) H5 ⟨_, l4, rfl, q⟩
  rcases hN with q | q
  · obtain ⟨B2, le, H3, r⟩ := H2.freeze
    exact done B2 _ l3 le H3 r q
  · exact done B1 _ ((D, .list acc) :: l3) (Le.refl _) ((H2.perm swap2).perm (swap2.cons _)) .obj (q D)
end
end Yy

end

section
set_option maxRecDepth 100000
namespace Yy
open PySem PySem.W PySem.Calls PyProof.Rows

noncomputable def mi (ns : List Int) : List MV := ns.map MV.int
noncomputable def ms (ss : List Str) : List MV := ss.map MV.str

theorem VRs.ints {B : Fz} {l : List Value} {ns : List Int} (r : VRs B l (mi ns)) : ∃ ps : List (Int × Tok), l = ps.map (fun p => Value.int p.1 p.2) ∧ ps.map (·.1) = ns := by
  induction ns generalizing l with
  | nil => exact ⟨[], r.nil_, rfl⟩
  | cons n ns ih =>
    obtain ⟨v, vs, rfl, r, rs⟩ := VRs.cons_ r
    obtain ⟨t, rfl⟩ := r.int_
    obtain ⟨ps, rfl, rfl⟩ := ih rs
    exact ⟨(n, t) :: ps, rfl, rfl⟩
theorem VRs.strs {B : Fz} {l : List Value} {ns : List Str} (r : VRs B l (ms ns)) : ∃ ps : List (Str × Tok), l = PySem.strValues ps ∧ ps.map (·.1) = ns := by
  induction ns generalizing l with
  | nil => exact ⟨[], r.nil_, rfl⟩
  | cons n ns ih =>
    obtain ⟨v, vs, rfl, r, rs⟩ := VRs.cons_ r
    obtain ⟨t, rfl⟩ := r.str_
    obtain ⟨ps, rfl, rfl⟩ := ih rs
    exact ⟨(n, t) :: ps, rfl, rfl⟩
theorem VRs.of_strs {B : Fz} : ∀ (ps : List (Str × Tok)), VRs B (PySem.strValues ps) (ms (ps.map (·.1)))
  | [] => .nil
  | _ :: ps => .cons .str (VRs.of_strs ps)

theorem VRs.intItems {B : Fz} {l : List Value} {ns : List Int} (h : VRs B l (mi ns)) : ∃ xs : Array (Int × Tok), l.toArray = PySem.intItems xs ∧ xs.toList.map (·.1) = ns := by
  obtain ⟨ps, h1, h2⟩ := h.ints
  exact ⟨ps.toArray, by rw [h1]; simp [PySem.intItems], by simpa using h2⟩

section
variable {prog : Program} {w : World} {h₀ : Heap}
variable {A : Around} {env : Env} {m : Vars} {led : Led} {Q : Led → MV → Prop}

theorem b_len_str {x : Str} (hx : (x.length : Int) < 2 ^ 63) (h : Q led (.int x.length)) : Cl prog w h₀ A led (.bi "len") [.str x] [] Q :=
  Cl.bi1 fun B v s K r H k => by
    obtain ⟨_, rfl⟩ := r.str_
    exact PySem.P.len_str (by lia) (k B s.heap _ _ _ (Le.refl _) H ⟨_, .int, h⟩)
theorem b_len_lst {xs : List MV} (hx : (xs.length : Int) < 2 ^ 63) (h : Q led (.int xs.length)) : Cl prog w h₀ A led (.bi "len") [.lst xs] [] Q :=
  Cl.bi1 fun B v s K r H k => by
    obtain ⟨_, _, _, rfl, e, r⟩ := r.lst_
    refine call_len_list ⟨_, H.keep _ _ e, rfl, _, rfl⟩ (by rw [List.size_toArray, r.length]; exact hx) (k B s.heap _ _ _ (Le.refl _) H ⟨_, .int, ?_⟩)
    rw [List.size_toArray, r.length]; exact h
theorem b_len_own {a : Addr} {xs : List MV} (hm : (a, LC.list xs) ∈ led) (hx : (xs.length : Int) < 2 ^ 63) (h : Q led (.int xs.length)) : Cl prog w h₀ A led (.bi "len") [.obj a] [] Q :=
  Cl.bi1 fun B v s K r H k => by
    obtain rfl := r.obj_
    obtain ⟨l, n, e, r⟩ := (H.own _ hm).2
    refine call_len_list ⟨_, e, rfl, _, rfl⟩ (by rw [List.size_toArray, r.length]; exact hx) (k B s.heap _ _ _ (Le.refl _) H ⟨_, .int, ?_⟩)
    rw [List.size_toArray, r.length]; exact h

theorem preSum_sum {xs : Array (Int × Tok)} : preSum (numAt xs) xs.size = (xs.toList.map (·.1)).sum := by
  have : ∀ n, n ≤ xs.size → preSum (numAt xs) n = ((xs.toList.map (·.1)).take n).sum := by
    intro n
    induction n with
    | zero => intro _; simp [preSum]
    | succ n ih =>
      intro hn
      have hlt : n < xs.toList.length := by rw [Array.length_toList]; lia
      rw [preSum, ih (by lia), List.take_succ_eq_append_getElem (by rw [List.length_map]; exact hlt), List.sum_append]
      have hn' : n < xs.size := hn
      simp [numAt, hn']
  rw [this _ (Nat.le_refl _), List.take_of_length_le (by simp)]

theorem b_sum {ns : List Int} (hh : A.handled = none) (h : Q led (.int ns.sum)) : Cl prog w h₀ A led (.bi "sum") [.lst (mi ns)] [] Q :=
  Cl.bi1 fun B v s K r H k => by
    obtain ⟨_, _, _, rfl, e, r⟩ := r.lst_
    obtain ⟨xs, h1, h2⟩ := r.intItems
    refine sum_intListG hh (xs := xs) ⟨_, H.keep _ _ e, rfl, _, congrArg (Data.seq · _) h1⟩ fun h' tk t' hk => ?_
    refine k B h' tk _ _ (Le.refl _) (H.keeps hk) ⟨_, .int, ?_⟩
    rw [preSum_sum, h2]; exact h
theorem b_min2 {a b : Int} (hh : A.handled = none) (h : Q led (.int (min a b))) : Cl prog w h₀ A led (.bi "min") [.int a, .int b] [] Q :=
  Cl.bi2 fun B v u s K r r2 H k => by
    obtain ⟨_, rfl⟩ := r.int_
    obtain ⟨_, rfl⟩ := r2.int_
    refine min_two_ints hh fun h' tk hk => k B h' tk _ _ (Le.refl _) (H.keeps hk) ⟨.int (min a b), ?_, h⟩
    split
    · rw [show min a b = b by lia]; exact .int
    · rw [show min a b = a by lia]; exact .int
theorem b_max2 {a b : Int} (hh : A.handled = none) (h : Q led (.int (max a b))) : Cl prog w h₀ A led (.bi "max") [.int a, .int b] [] Q :=
  Cl.bi2 fun B v u s K r r2 H k => by
    obtain ⟨_, rfl⟩ := r.int_
    obtain ⟨_, rfl⟩ := r2.int_
    refine max_two_ints hh fun h' tk hk => k B h' tk _ _ (Le.refl _) (H.keeps hk) ⟨.int (max a b), ?_, h⟩
    split
    · rw [show max a b = b by lia]; exact .int
    · rw [show max a b = a by lia]; exact .int
theorem argBest_at {xs : Array (Int × Tok)} {i : Nat} {v : Value} (h : (PySem.intItems xs)[i]? = some v) : ∃ t, v = .int (numAt xs i) t ∧ numAt xs i ∈ xs.toList.map (·.1) := by
  obtain ⟨t, rfl⟩ := intItems_at h
  refine ⟨t, rfl, ?_⟩
  rw [numAt_eq]
  refine getD_mem ?_
  have := (Array.getElem?_eq_some_iff.mp h).1
  simpa [PySem.intItems] using this
/-- the least of a list, the greatest: told by what they are -/
theorem b_minL {ns : List Int} (hh : A.handled = none) (hne : ns ≠ []) (h : ∀ M, M ∈ ns → (∀ a, a ∈ ns → M ≤ a) → Q led (.int M)) : Cl prog w h₀ A led (.bi "min") [.lst (mi ns)] [] Q :=
  Cl.bi1 fun B v s K r H k => by
    obtain ⟨_, _, _, rfl, e, r⟩ := r.lst_
    obtain ⟨xs, h1, h2⟩ := r.intItems
    have hsz : 0 < xs.size := by
      cases ns with
      | nil => exact absurd rfl hne
      | cons _ _ => have := congrArg List.length h2; simp at this; lia
    refine min_intList hh (xs := xs) ⟨_, H.keep _ _ e, rfl, _, congrArg (Data.seq · _) h1⟩ hsz fun v h' tk hv hk => ?_
    obtain ⟨t, rfl, hm⟩ := argBest_at hv
    obtain ⟨_, h3⟩ := argBest_lt (numAt xs) (xs.size - 1)
    refine k B h' tk _ _ (Le.refl _) (H.keeps hk) ⟨_, .int, h _ (h2 ▸ hm) fun a ha => ?_⟩
    rw [← h2] at ha
    obtain ⟨j, hj, rfl⟩ := mem_getD ha
    rw [List.length_map, Array.length_toList] at hj
    rw [← numAt_eq]; exact h3 j (by lia)
theorem b_maxL {ns : List Int} (hh : A.handled = none) (hne : ns ≠ []) (h : ∀ M, M ∈ ns → (∀ a, a ∈ ns → a ≤ M) → Q led (.int M)) : Cl prog w h₀ A led (.bi "max") [.lst (mi ns)] [] Q :=
  Cl.bi1 fun B v s K r H k => by
    obtain ⟨_, _, _, rfl, e, r⟩ := r.lst_
    obtain ⟨xs, h1, h2⟩ := r.intItems
    have hsz : 0 < xs.size := by
      cases ns with
      | nil => exact absurd rfl hne
      | cons _ _ => have := congrArg List.length h2; simp at this; lia
    refine max_intList hh (xs := xs) ⟨_, H.keep _ _ e, rfl, _, congrArg (Data.seq · _) h1⟩ hsz fun v h' tk hv hk => ?_
    obtain ⟨t, rfl, hm⟩ := argBest_at hv
    obtain ⟨_, h3⟩ := argBest_gt (numAt xs) (xs.size - 1)
    refine k B h' tk _ _ (Le.refl _) (H.keeps hk) ⟨_, .int, h _ (h2 ▸ hm) fun a ha => ?_⟩
    rw [← h2] at ha
    obtain ⟨j, hj, rfl⟩ := mem_getD ha
    rw [List.length_map, Array.length_toList] at hj
    rw [← numAt_eq]; exact h3 j (by lia)
theorem b_int_bool {b : Bool} (h : Q led (.int (if b then 1 else 0))) : Cl prog w h₀ A led (.ty "int") [.bool b] [] Q :=
  Cl.ty1 fun B v s K r H k => by
    obtain rfl := r.bool_
    exact call_int_bool (k B s.heap _ _ _ (Le.refl _) H ⟨_, .int, h⟩)
theorem b_bits {a : Int} (h : Q led (.int (Builtin.Int.intBits a))) : Cl prog w h₀ A led (.bi "int.bit_length") [.int a] [] Q :=
  Cl.bi1 fun B v s K r H k => by
    obtain ⟨_, rfl⟩ := r.int_
    exact PyProof.Rows.call_int_bit_length (k B s.heap _ _ _ (Le.refl _) H ⟨_, .int, h⟩)
theorem b_append {a : Addr} {xs : List MV} {y : MV} {led' : Led} (hs : SetL led a xs (xs ++ [y]) led') (hz : xs.length ≤ sizeLine) (h : Q led' .none) : Cl prog w h₀ A led (.bi "list.append") [.obj a, y] [] Q :=
  Cl.bi2 fun B v u s K r r2 H k => by
    obtain rfl := r.obj_
    obtain ⟨pre, post, rfl, rfl⟩ := hs.split
    exact append_own H r2 hz fun h' H' => k B h' s.toks _ _ (Le.refl _) H' ⟨_, .none, h⟩

theorem b_join {sep : Str} {ss : List Str} (hok : PySem.JoinOk sep ss = true) (h : Q led (.str (Txt.join sep ss))) : Cl prog w h₀ A led (.bi "str.join") [.str sep, .lst (ms ss)] [] Q :=
  Cl.bi2 fun B v u s K r r2 H k => by
    obtain ⟨_, rfl⟩ := r.str_
    obtain ⟨_, _, _, rfl, e, r⟩ := r2.lst_
    obtain ⟨ps, rfl, ht⟩ := r.strs
    exact PySem.SC.join ⟨_, H.keep _ _ e, rfl, _, rfl⟩ ht hok fun t' tk => k B s.heap tk _ _ (Le.refl _) H ⟨_, .str, h⟩
theorem b_split {x y : Str} (hy : (y.length == 0) = false) (hx : x.length + 2 ≤ sizeLine) (h : NewL led (ms (Txt.split x y)) Q) : Cl prog w h₀ A (fled env m led) (.bi "str.split") [.str x, .str y] [] (Ret env m Q) :=
  Cl.bi2 fun B v u s K r r2 H k => by
    obtain ⟨_, rfl⟩ := r.str_
    obtain ⟨_, rfl⟩ := r2.str_
    rename_i t u
    have hn : (Builtin.Str.partsBetween x (Builtin.Str.occurrences x y 0 x.length (x.length + 1)) y.length).length ≤ sizeLine := by
      have e1 := StrLaws.occ_length_le x y 0 x.length (x.length + 1)
      rw [length_partsBetween]; lia
    have fin : ∀ (ps : List (Str × Tok)) tk, ps.map (·.1) = Txt.split x y → K (.ref s.heap.objs.size) { s with heap := s.heap.push { cls := .type "list", data := .seq (strValues ps).toArray }, toks := tk } := by
      intro ps tk hps
      have rr : VRs B (strValues ps) (ms (Txt.split x y)) := hps ▸ VRs.of_strs ps
      refine newL_sound (s := s) (n := 0) h H rr (fresh_none _) (fun b o e => Heap.get?_push_of_some _ e) (Heap.get?_push_size _ rfl) (fun B' h' tk l r le H' p => k B' h' tk l r le H' ?_) tk
      obtain ⟨z, l1, e, rz, q⟩ := p
      exact ⟨z, rz, l1, e, q⟩
    cases h1 : (decide (x.length < y.length) || decide (Builtin.Str.strKind x < Builtin.Str.strKind y))
    · cases hf : (Builtin.Str.occurrences x y 0 x.length (x.length + 1)).isEmpty
      · refine call_meets F.slot_str_split (typeIs_str _ _ _) F.entry_str_split (F.args_str_split_2 _ _) (meets_str_split_sep x y t u h1 hy hf (by lia) hn) ?_
        show wants K NoE _ { s with toks := _, heap := s.heap.push { cls := .type "list", data := .seq (strsFrom s.toks (Builtin.Str.partsBetween x (Builtin.Str.occurrences x y 0 x.length (x.length + 1)) y.length)).toArray } }
        rw [strsFrom_eq]
        exact fin (numbered s.toks _) _ ((numbered_texts _ _).trans ((if_neg (ne_true_of_eq_false h1)).trans (if_neg (ne_true_of_eq_false hf))).symm)
      · exact call_meets F.slot_str_split (typeIs_str _ _ _) F.entry_str_split (F.args_str_split_2 _ _) (meets_str_split_not_found x y t u h1 hy hf)
          (fin [(x, t)] s.toks ((if_neg (ne_true_of_eq_false h1)).trans (if_pos hf)).symm)
    · exact call_meets F.slot_str_split (typeIs_str _ _ _) F.entry_str_split (F.args_str_split_2 _ _) (meets_str_split_cannot_occur x y t u h1)
        (fin [(x, t)] s.toks (if_pos h1).symm)
end
end Yy

end

section
set_option maxRecDepth 100000
namespace Yy
open PySem PySem.W PySem.Calls PyProof.Rows

theorem allT : ∀ l : List Nat, (l.all fun _ => true) = true
  | [] => rfl
  | _ :: r => allT r
/-! ### a tree is like itself -/
mutual
noncomputable def dep : MV → Nat
  | .tup xs => deps xs + 1
  | .lst xs => deps xs + 1
  | _ => 0
noncomputable def deps : List MV → Nat
  | [] => 0
  | x :: xs => max (dep x) (deps xs)
end

theorem VRs.both {B : Fz} : ∀ {xs : List MV} {vs vs' : List Value}, VRs B vs xs → VRs B vs' xs → ∀ j (h1 : j < vs.length) (h2 : j < vs'.length), ∃ x, dep x ≤ deps xs ∧ VR B vs[j] x ∧ VR B vs'[j] x := by
  intro xs
  induction xs with
  | nil => intro vs vs' r r' j h1 _; cases r.nil_; exact absurd h1 (Nat.not_lt_zero _)
  | cons x xs ih =>
    intro vs vs' r r' j h1 h2
    obtain ⟨v, us, rfl, a, b⟩ := r.cons_
    obtain ⟨v', us', rfl, a', b'⟩ := r'.cons_
    cases j with
    | zero => exact ⟨x, Nat.le_max_left _ _, a, a'⟩
    | succ j =>
      obtain ⟨y, hy, p, q⟩ := ih b b' j (Nat.lt_of_succ_lt_succ h1) (Nat.lt_of_succ_lt_succ h2)
      exact ⟨y, Nat.le_trans hy (Nat.le_max_right _ _), p, q⟩
open PySem.SeqAt in
theorem VR.same {B : Fz} : ∀ (n : Nat) {x : MV} {v v' : Value} {A : Around} {s : Shared}, dep x ≤ n → A.units + n < 9900 → Le B s.heap.get? → VR B v x → VR B v' x → EqAt A s v v' true := by
  intro n
  induction n with
  | zero =>
    intro x v v' A s hd _ _ r r'
    cases x with
    | none => cases r.none_; cases r'.none_; exact EqAt.same _
    | bool b => cases r.bool_; cases r'.bool_; exact EqAt.same _
    | int k =>
      obtain ⟨t, rfl⟩ := r.int_; obtain ⟨t', rfl⟩ := r'.int_
      have := EqAt.int_int (A := A) (s := s) k t k t'
      rwa [beq_self_eq_true] at this
    | str k =>
      obtain ⟨t, rfl⟩ := r.str_; obtain ⟨t', rfl⟩ := r'.str_
      have := EqAt.str_str (A := A) (s := s) k t k t'
      rwa [beq_self_eq_true] at this
    | obj a => cases r.obj_; cases r'.obj_; exact EqAt.same _
    | bi i => cases r.bi_; cases r'.bi_; exact EqAt.same _
    | ty i => cases r.ty_; cases r'.ty_; exact EqAt.same _
    | tup xs => exact absurd hd (Nat.not_succ_le_zero _)
    | lst xs => exact absurd hd (Nat.not_succ_le_zero _)
  | succ n ih =>
    intro x v v' A s hd hu hB r r'
    have hu0 : A.units < 9900 := Nat.lt_of_le_of_lt (Nat.le_add_right _ _) hu
    have parts : ∀ {xs : List MV} {l l' : List Value}, deps xs ≤ n → VRs B l xs → VRs B l' xs → ∀ j (h1 : j < l.toArray.size) (h2 : j < l'.toArray.size), EqAt A.in1 s l.toArray[j] l'.toArray[j] true := fun hx rs rs' j j1 j2 => by
      obtain ⟨y, hy, p, q⟩ := rs.both rs' j j1 j2
      exact ih (Nat.le_trans hy hx) (by show A.units + 1 + n < 9900; rwa [Nat.add_right_comm]) hB p q
    by_cases h0 : dep x ≤ n
    · exact ih h0 (Nat.lt_of_succ_lt hu) hB r r'
    · cases x with
      | tup xs =>
        obtain ⟨a, m, l, rfl, e, rs⟩ := r.tup_
        obtain ⟨b, m', l', rfl, e', rs'⟩ := r'.tup_
        by_cases hab : a = b
        · subst hab; exact EqAt.same _
        · have := EqAt.of_refs hab (RcAt.tuples (A := A) (e := fun _ => true) ⟨_, hB _ _ e, rfl, _, rfl⟩ ⟨_, hB _ _ e', rfl, _, rfl⟩ hu0 (parts (Nat.le_of_succ_le_succ hd) rs rs'))
          simpa [rs.length.trans rs'.length.symm, allT] using this
      | lst xs =>
        obtain ⟨a, m, l, rfl, e, rs⟩ := r.lst_
        obtain ⟨b, m', l', rfl, e', rs'⟩ := r'.lst_
        by_cases hab : a = b
        · subst hab; exact EqAt.same _
        · have := EqAt.of_refs hab (RcAt.lists (A := A) (e := fun _ => true) ⟨_, hB _ _ e, rfl, _, rfl⟩ ⟨_, hB _ _ e', rfl, _, rfl⟩ (rs.length.trans rs'.length.symm) hu0 (parts (Nat.le_of_succ_le_succ hd) rs rs'))
          simpa [rs.length.trans rs'.length.symm, allT] using this
      | _ => exact absurd (Nat.zero_le n) h0

section
variable {prog : Program} {w : World} {h₀ : Heap}
variable {A : Around} {env : Env} {m : Vars} {led : Led} {Q : Led → MV → Prop} {QT : Led → Bool → Prop} {Qn : Vars → Led → Prop} {Qr : Led → MV → Prop}

/-- two trees that are one tree -/
noncomputable def SameQ (op : CmpOp) (x y : MV) (Q : Bool → Prop) : Prop := x = y ∧ dep x ≤ 90 ∧ (match x with | .tup _ => True | .lst _ => True | _ => False) ∧ (match op with | .Eq => Q true | .NotEq => Q false | _ => False)

theorem SameQ.sound {op : CmpOp} {B : Fz} {a b : Value} {x y : MV} {Q : Bool → Prop} {s : Shared} {K : Value → Shared → Prop} (hu : A.units ≤ 9800) (ra : VR B a x) (rb : VR B b y) (hB : Le B s.heap.get?) (q : SameQ op x y Q)
    (k : ∀ v, Q v → K (.bool v) s) : wpAny (model prog w) A (compareOp op a b) K NoE s := by
  obtain ⟨rfl, hd, hs, q⟩ := q
  cases x with
  | tup xs =>
      obtain ⟨a, n, l, rfl, e, rs⟩ := ra.tup_
      obtain ⟨b, n', l', rfl, e', rs'⟩ := rb.tup_
      have hd' : deps xs + 1 ≤ 90 := hd
      have h1 : s.heap.IsTuple a l.toArray := ⟨_, hB _ _ e, rfl, _, rfl⟩
      have h2 : s.heap.IsTuple b l'.toArray := ⟨_, hB _ _ e', rfl, _, rfl⟩
      have hl : l.length = l'.length := rs.length.trans rs'.length.symm
      have he : ∀ j (h1 : j < l.toArray.size) (h2 : j < l'.toArray.size), PySem.SeqAt.EqAt A.in1 s l.toArray[j] l'.toArray[j] true := fun j j1 j2 => by
        obtain ⟨y, hy, p, q⟩ := rs.both rs' j j1 j2
        exact VR.same 90 (Nat.le_trans hy (Nat.le_of_succ_le hd')) (Nat.lt_of_le_of_lt (Nat.add_le_add_right (Nat.add_le_add_right hu 1) 90) (by decide)) hB p q
      split at q
      · exact PySem.SeqAt.RcAt.tuples (e := fun _ => true) h1 h2 (Nat.lt_of_le_of_lt hu (by decide)) he prog w NoE K (by simpa [hl, allT] using k true q)
      · exact PySem.SeqAt.RcNeAt.tuples (e := fun _ => true) h1 h2 (Nat.lt_of_le_of_lt hu (by decide)) he prog w NoE K (by simpa [hl, allT] using k false q)
      · exact q.elim
  | lst xs =>
      obtain ⟨a, n, l, rfl, e, rs⟩ := ra.lst_
      obtain ⟨b, n', l', rfl, e', rs'⟩ := rb.lst_
      have hd' : deps xs + 1 ≤ 90 := hd
      have h1 : s.heap.IsList a l.toArray := ⟨_, hB _ _ e, rfl, _, rfl⟩
      have h2 : s.heap.IsList b l'.toArray := ⟨_, hB _ _ e', rfl, _, rfl⟩
      have hl : l.length = l'.length := rs.length.trans rs'.length.symm
      have he : ∀ j (h1 : j < l.toArray.size) (h2 : j < l'.toArray.size), PySem.SeqAt.EqAt A.in1 s l.toArray[j] l'.toArray[j] true := fun j j1 j2 => by
        obtain ⟨y, hy, p, q⟩ := rs.both rs' j j1 j2
        exact VR.same 90 (Nat.le_trans hy (Nat.le_of_succ_le hd')) (Nat.lt_of_le_of_lt (Nat.add_le_add_right (Nat.add_le_add_right hu 1) 90) (by decide)) hB p q
      split at q
      · exact PySem.SeqAt.RcAt.lists (e := fun _ => true) h1 h2 (by simpa using hl) (Nat.lt_of_le_of_lt hu (by decide)) he prog w NoE K (by simpa [allT] using k true q)
      · exact PySem.SeqAt.RcNeAt.lists (e := fun _ => true) h1 h2 (by simpa using hl) (Nat.lt_of_le_of_lt hu (by decide)) he prog w NoE K (by simpa [allT] using k false q)
      · exact q.elim
  | _ => exact hs.elim

theorem E1.same {l r : Expr} {op : CmpOp} {pos} (hu : A.units ≤ 9800) (h : E1 prog w h₀ A env m led l (fun led1 x => E1 prog w h₀ A env m led1 r (fun led2 y => SameQ op x y (fun b => Q led2 (.bool b)))))
    (hm : behindInMarks op r = false := by rfl) : E1 prog w h₀ A env m led (.Compare l [op] [r] pos) Q := fun B s K H k => by
  refine wpAny_Compare1 (E1.use h H fun B1 h1 tk1 a x led1 le1 H1 ra q => ?_) hm
  refine E1.use q H1 fun B2 h2 tk2 b y led2 le2 H2 rb q2 => ?_
  exact SameQ.sound (s := { s with heap := h2, toks := tk2 }) hu (ra.mono le2) rb H2.keep q2 fun v qv => k B2 h2 tk2 _ _ (le1.trans le2) H2 (.of .bool qv)
theorem T1.same {l r : Expr} {op : CmpOp} {pos} (hu : A.units ≤ 9800) (h : E1 prog w h₀ A env m led l (fun led1 x => E1 prog w h₀ A env m led1 r (fun led2 y => SameQ op x y (fun b => QT led2 b))))
    (hm : behindInMarks op r = false := by rfl) : T1 prog w h₀ A env m led (.Compare l [op] [r] pos) QT := fun B s K H k => by
  refine wpAny_isTrue_Compare1 (E1.use h H fun B1 h1 tk1 a x led1 le1 H1 ra q => ?_) hm
  refine E1.use q H1 fun B2 h2 tk2 b y led2 le2 H2 rb q2 => ?_
  exact SameQ.sound (s := { s with heap := h2, toks := tk2 }) hu (ra.mono le2) rb H2.keep q2 fun v qv => wpAny_truthy_bool (k B2 h2 tk2 _ _ (le1.trans le2) H2 ⟨led2, rfl, qv⟩)

/-! ### freezing -/
theorem E1.frz {e : Expr} (h : E1 prog w h₀ A env m led e (fun l x => ∃ a xs l', x = .obj a ∧ DelL l a xs l' ∧ Q l' (.lst xs))) : E1 prog w h₀ A env m led e Q := fun B s K H k => by
  refine E1.use h H fun B1 h1 tk1 v x led1 le1 H1 rv qX => ?_
  obtain ⟨a, xs, l', rfl, hd, q⟩ := qX
  cases rv
  obtain ⟨pre, post, rfl, rfl⟩ := hd.split
  have H2 : Hp h₀ B1 h1 ((a, .list xs) :: fled env m (pre ++ post)) := H1.perm (by
    have : (pre ++ (a, LC.list xs) :: post).Perm ((a, LC.list xs) :: (pre ++ post)) := List.perm_middle
    exact (this.cons _).trans swap2)
  obtain ⟨B2, le2, H3, r⟩ := H2.freeze
  exact k B2 h1 tk1 _ _ (le1.trans le2) H3 (.of r q)
theorem Cl.frz {f args kw} (h : Cl prog w h₀ A led f args kw (fun l x => ∃ a xs l', x = .obj a ∧ DelL l a xs l' ∧ Q l' (.lst xs))) : Cl prog w h₀ A led f args kw Q :=
  ⟨h.1, fun B fv vs ks rf rs rk s K H k => by
    refine h.2 B fv vs ks rf rs rk s _ H ?_
    rintro B1 h1 tk1 _ v le1 H1 ⟨x, rv, a, xs, l', rfl, hd, q⟩
    cases rv
    obtain ⟨pre, post, rfl, rfl⟩ := hd.split
    have H2 : Hp h₀ B1 h1 ((a, .list xs) :: (pre ++ post)) := H1.perm List.perm_middle
    obtain ⟨B2, le2, H3, r⟩ := H2.freeze
    exact k B2 h1 tk1 _ _ (le1.trans le2) H3 ⟨_, r, q⟩⟩
/-- a name's list stands still from here on -/
theorem Xs.frz {st : List Stmt} {x : Str} {a : Addr} {xs : List MV} {led' : Led} (hx : m.lookup x = some (.obj a)) (hd : DelL led a xs led') (h : Xs prog w h₀ A env ((x, .lst xs) :: m) led' st Qn Qr) : Xs prog w h₀ A env m led st Qn Qr := fun B s K H k => by
  obtain ⟨pre, post, rfl, rfl⟩ := hd.split
  have H2 : Hp h₀ B s.heap ((a, .list xs) :: fled env m (pre ++ post)) := H.perm (by
    have : (pre ++ (a, LC.list xs) :: post).Perm ((a, LC.list xs) :: (pre ++ post)) := List.perm_middle
    exact (this.cons _).trans swap2)
  obtain ⟨f, hn, hr⟩ := H.ns
  obtain ⟨B2, le2, H3, r⟩ := H2.freeze
  have H4 : Hp h₀ B2 s.heap (fled env ((x, .lst xs) :: m) (pre ++ post)) := H3.turn0 (fun _ _ _ e => e) ⟨f, hn, fun z u e => by
    rw [List.lookup_cons] at e
    by_cases hz : z = x
    · subst hz
      simp only [beq_self_eq_true] at e
      cases e
      obtain ⟨v, ev, rv⟩ := hr _ _ hx
      cases rv
      exact ⟨_, ev, r⟩
    · rw [beq_eq_false_iff_ne.mpr hz] at e
      obtain ⟨v', e', r'⟩ := hr z u e
      exact ⟨v', e', r'.mono le2⟩⟩
  exact h B2 s K H4 fun B' h' tk l r le H' p => k B' h' tk l r (le2.trans le) H' p

/-! ### more built-ins -/
theorem b_divmod {a b : Int} (hb : b ≠ 0) (hp : Builtin.divisionGoesByPylong a b = false) (h : Q led (.tup [.int (a.fdiv b), .int (a.fmod b)])) : Cl prog w h₀ A led (.bi "divmod") [.int a, .int b] [] Q :=
  Cl.bi2 fun B v u s K r r2 H k => by
    obtain ⟨_, rfl⟩ := r.int_
    obtain ⟨_, rfl⟩ := r2.int_
    refine divmod_int hb ?_ (.inl hp)
    obtain ⟨H2, le2⟩ := H.frz (o := tupO [.int (a.fdiv b) s.toks, .int (a.fmod b) (s.toks + 1)] 0) (fresh_none _) (fun b o e => Heap.get?_push_of_some _ e) (Heap.get?_push_size s.heap (o := tupO [.int (a.fdiv b) s.toks, .int (a.fmod b) (s.toks + 1)] 0) rfl)
    exact k _ _ (s.toks + 1 + 1) _ _ le2 H2 ⟨_, .tup addB_self (.cons .int (.cons .int .nil)), h⟩

theorem update_own {B : Fz} {a : Addr} {xs ys : List MV} {l l' : List Value} {n : Nat} {pre post : Led} {h : Heap} {f : Array Value → Array Value} (H : Hp h₀ B h (pre ++ (a, .list xs) :: post)) (e : h.get? a = some (lstO l n)) (hf : f l.toArray = l'.toArray) (hr : VRs B l' ys) :
    Hp h₀ B (h.update a (Obj.mapSeq f)) (pre ++ (a, .list ys) :: post) := by
  have e' := get?_update_seq (c := "list") e f
  rw [hf] at e'
  obtain ⟨n', e'⟩ : ∃ n', (h.update a (Obj.mapSeq f)).get? a = some (lstO l' n') := ⟨_, e'⟩
  exact Hp.turn H (fun b o hb q => (Heap.get?_update_other _ _ (Ne.symm hb)).trans q) ⟨l', n', e', hr⟩

theorem b_reverse {a : Addr} {xs : List MV} {led' : Led} (hs : SetL led a xs xs.reverse led') (hz : xs.length ≤ sizeLine) (h : Q led' .none) : Cl prog w h₀ A led (.bi "list.reverse") [.obj a] [] Q :=
  Cl.bi1 fun B v s K r H k => by
    obtain rfl := r.obj_
    obtain ⟨pre, post, rfl, rfl⟩ := hs.split
    obtain ⟨l, n, e, rr⟩ := (H.own (a, .list xs) (by simp)).2
    refine call_meets F.slot_list_reverse ⟨_, e, rfl⟩ F.entry_list_reverse (F.args_list_reverse_1 _) (AutoListH.list_reverse_list_0 a l.toArray n (by rw [List.size_toArray, rr.length]; exact hz)) ⟨e, ?_⟩
    exact k B _ s.toks _ _ (Le.refl _) (update_own H e (l' := l.reverse) (by simp) rr.reverse) ⟨_, .none, h⟩
theorem b_insert {a : Addr} {xs : List MV} {i : Int} {y : MV} {led' : Led} (h0 : 0 ≤ i) (hi : i.toNat ≤ xs.length) (hs : SetL led a xs (xs.take i.toNat ++ y :: xs.drop i.toNat) led') (hz : xs.length ≤ sizeLine) (h : Q led' .none) : Cl prog w h₀ A led (.bi "list.insert") [.obj a, .int i, y] [] Q :=
  Cl.bi3 fun B v u q s K r r2 r3 H k => by
    obtain rfl := r.obj_
    obtain ⟨t, rfl⟩ := r2.int_
    obtain ⟨pre, post, rfl, rfl⟩ := hs.split
    obtain ⟨l, n, e, rr⟩ := (H.own (a, .list xs) (by simp)).2
    have hz' : sizeLine = 2 ^ 24 := rfl
    refine call_meets F.slot_list_insert ⟨_, e, rfl⟩ F.entry_list_insert (F.args_list_insert_3 _ _ _) (AutoListH.list_insert_list_int_val_1 a l.toArray n i t _ (by simp [Builtin.List.listFitsIndex]; lia) (by rw [List.size_toArray, rr.length]; exact hz)) ⟨e, ?_⟩
    refine k B _ s.toks _ _ (Le.refl _) (update_own H e (l' := l.take i.toNat ++ q :: l.drop i.toNat) ?_ ((rr.take _).append (.cons r3 (rr.drop _)))) ⟨_, .none, h⟩
    have hl := rr.length
    have hneg : ¬ i < 0 := Int.not_lt.mpr h0
    have hmin : min i.toNat l.toArray.size = i.toNat := by rw [List.size_toArray]; lia
    simp only [hneg, if_false, hmin]
    apply Array.ext'
    simp
    exact List.take_of_length_le (by simp)
end
end Yy

end

section
set_option maxRecDepth 100000
namespace Yy
open PySem PySem.W PySem.Calls PyProof.Rows

/-! ### enumerate is called -/
theorem meets_enumerate_newT (l : Addr) (items : Array Value) (n : Nat) (dct : Option Addr) (sl : Array (Option Value)) :
    Meets (Builtin.«enumerate.__new__» ⟨[.type "enumerate", .ref l], []⟩) (fun _ R s => s.heap.get? l = some { cls := .type "tuple", dict := dct, data := .seq items n, slots := sl } ∧
      R (.ok (.ret (.ref (s.heap.push { cls := .type "tuple_iterator", data := .fields #[.ref l, .int 0 0] }).objs.size)))
        { s with heap := (s.heap.push { cls := .type "tuple_iterator", data := .fields #[.ref l, .int 0 0] }).push { cls := .type "enumerate", data := .fields #[.none, .bool false, .ref s.heap.objs.size, rawInt 0, .none, .none] } }) :=
  .of_wp fun prog w A R s h => by
    obtain ⟨hp, g, d, tk, os⟩ := s; obtain ⟨hl, h⟩ := h
    have hsub := sub_enumerate
    have hL : Heap.IsTuple (Shared.heap ⟨hp, g, d, tk, os⟩) l items := ⟨_, hl, rfl, n, rfl⟩
    wp_walk using AutoSeq1.wpAny_loadPart' hl
    refine wpAny_stack_any fun st => wpAny_pure ?_
    split
    · rename_i c _ _ _ _ _
      cases (c == Value.type "enumerate")
      · wp_walk using AutoSeq1.wpAny_loadPart' hl, wpAny_pyIter_tuple hL
        exact ⟨_, rfl, h⟩
      · wp_walk using AutoSeq1.wpAny_loadPart' hl, wpAny_pyIter_tuple hL
        exact ⟨_, rfl, h⟩
    · wp_walk using AutoSeq1.wpAny_loadPart' hl, wpAny_pyIter_tuple hL
      exact ⟨_, rfl, h⟩

section
variable {prog : Program} {w : World} {A : Around} {E : Value → Shared → Prop} {s : Shared}
theorem call_enumerate_tuple {l : Addr} {items : Array Value} {n : Nat} {Q : Value → Shared → Prop} (hL : s.heap.get? l = some { cls := .type "tuple", data := .seq items n })
    (h : ∀ h', IsEnum h' (s.heap.objs.size + 1) s.heap.objs.size 0 .none → h'.IsTupleIter s.heap.objs.size l 0 →
      (∀ b o, s.heap.get? b = some o → h'.get? b = some o) → Q (.ref (s.heap.objs.size + 1)) { s with heap := h' }) :
    wpAny (model prog w) A (call (.type "enumerate") [.ref l]) Q E s := by
  refine callType_new F.called_enumerate (by decide) (F.typeCall_enumerate_1 _) (F.newCall_enumerate_1 _) (fun obj => F.args_object_init_2 obj _) F.entry_enumerate_new
    (meets_enumerate_newT l items n none #[]) ⟨hL, ?_⟩
  have hz : (s.heap.push { cls := .type "tuple_iterator", data := .fields #[.ref l, .int 0 0] }).objs.size = s.heap.objs.size + 1 := Heap.size_push ..
  show _ ∧ _
  rw [hz]
  have he : IsEnum ((s.heap.push { cls := .type "tuple_iterator", data := .fields #[.ref l, .int 0 0] }).push
      { cls := .type "enumerate", data := .fields #[.none, .bool false, .ref s.heap.objs.size, rawInt 0, .none, .none] }) (s.heap.objs.size + 1) s.heap.objs.size 0 .none := by
    have := Heap.get?_push_size (s.heap.push { cls := .type "tuple_iterator", data := .fields #[.ref l, .int 0 0] })
      (o := { cls := .type "enumerate", data := .fields #[.none, .bool false, .ref s.heap.objs.size, rawInt 0, .none, .none] }) rfl
    rw [hz] at this; exact this
  refine ⟨⟨_, he, rfl⟩, h _ he ⟨_, Heap.get?_push_of_some _ (Heap.get?_push_size _ rfl), rfl, rfl⟩ fun b o x => Heap.get?_push_of_some _ (Heap.get?_push_of_some _ x)⟩
end

section
variable {prog : Program} {w : World} {h₀ : Heap}
variable {A : Around} {env : Env} {m : Vars} {led : Led} {Q : Led → MV → Prop} {QT : Led → Bool → Prop} {Qn : Vars → Led → Prop} {Qr : Led → MV → Prop}

/-- what enumerate goes over -/
noncomputable def EnmQ (x : MV) (Q : List MV → Prop) : Prop := match x with
  | .lst xs => Q xs
  | .tup xs => Q xs
  | .str t => Q (letters t)
  | _ => False

theorem Hp.new2 {B : Fz} {h h' : Heap} {a b : Addr} {c d : LC} (H : Hp h₀ B h led) (ha : h.get? a = none) (hb : h.get? b = none) (hne : a ≠ b) (e : ∀ x o, h.get? x = some o → h'.get? x = some o) (hc : c.holds B h' a) (hd : d.holds B h' b) : Hp h₀ B h' ((a, c) :: (b, d) :: led) := by
  obtain ⟨b1, b2⟩ := H.old hb
  obtain ⟨a1, a2⟩ := H.old ha
  have H' := H.keeps e
  refine ⟨H'.base, H'.keep, ?_, fun p hp => ?_⟩
  · rw [List.map_cons, List.map_cons]
    refine List.nodup_cons.mpr ⟨fun q => ?_, List.nodup_cons.mpr ⟨b2, H.nodup⟩⟩
    rcases List.mem_cons.mp q with q | q
    · exact hne q
    · exact a2 q
  · rcases List.mem_cons.mp hp with rfl | hp
    · exact ⟨a1, hc⟩
    · rcases List.mem_cons.mp hp with rfl | hp
      · exact ⟨b1, hd⟩
      · exact H'.own p hp

theorem It1.enum {t : Expr} {x : Str} {np : Pos} {e : Expr} {pos : Pos} {Q : Led → List MV → Prop} (hh : A.handled = none) (ht : isTupT t = true)
    (h : E1 prog w h₀ A env m led (.Name x np) (fun l f => f = .ty "enumerate" ∧ E1 prog w h₀ A env m l e (fun l' y => EnmQ y (fun xs => Q l' (enmItems xs)))))
    (hs : starEach [e] env = [e].map fun e => (false, eval e env) := by rfl) : It1 prog w h₀ A env m led t (.Call (.Name x np) [e] [] pos) Q := fun B s K H k => by
  refine wpAny_Call_Name_kw (E1.use h H fun B1 h1 tk1 fv f led1 le1 H1 rf qX => ?_)
  obtain ⟨rfl, q⟩ := qX
  cases rf
  rw [hs, backTo_plain]
  have q' : Es prog w h₀ A env m led1 [e] (fun l xs => ∃ y, xs = [y] ∧ EnmQ y (fun ys => Q l (enmItems ys))) := q.mono fun l x q => ⟨x, rfl, q⟩
  let Pq : Fz → Led → Value → Prop := fun B l v => ∃ r it S0 ys led2, v = .ref r ∧ l = enmOwn r it S0 0 ++ fled env m led2 ∧ Src prog w A.in1 B it S0 ys ∧ Q led2 (enmItems ys)
  refine callWith_any (f := .ty "enumerate") (P := AP env m _) (Q := Pq) .ty (noStar _ _ _ rfl) (evalArgs_Es q') ?_ _ _ H1 ?_
  · rintro B2 led2 a le2 ⟨hk, xs, led3, rfl, rs, y, rfl, qq⟩
    refine ⟨trivial, fun s K H k => (?_ : wpAny _ _ (PySem.call (.type "enumerate") ([] ++ a.pos) a.kw) _ _ _)⟩
    rw [hk]
    revert rs
    refine gen (a.pos) fun ap => ?_
    intro rs
    cases rs with | cons r rs => ?_
    cases rs
    have hn1 : s.heap.get? (s.heap.objs.size + 1) = none := by
      cases e : s.heap.get? (s.heap.objs.size + 1) with
      | none => rfl
      | some o => exact absurd (Heap.lt_size e) (Nat.not_lt.mpr (Nat.le_succ _))
    have hsrc : ∀ {l : Addr} {o : Obj}, B2 l = some o → l ≠ s.heap.objs.size := fun e z => by
      have := H.keep _ _ e
      rw [z, fresh_none] at this; cases this
    cases r with
    | lst e0 rs =>
      rename_i l0 n0 vs0 xs0
      refine call_enumerate_list ⟨_, H.keep _ _ e0, rfl, _, rfl⟩ fun h' he hi hsz hk => ?_
      have Hn := Hp.new2 (c := .prd fun o => ∃ old, o = { cls := .type "enumerate", dict := none, data := .fields #[.none, .bool false, .ref s.heap.objs.size, rawInt ((0 : Nat) : Int), .none, old], slots := #[] })
        (d := .prd fun o => o.cls = .type "list_iterator" ∧ o.data = .fields #[.ref l0, .int ((0 : Nat) : Int) 0]) H hn1 (fresh_none _) (Nat.succ_ne_self _) hk ⟨_, he, .none, rfl⟩ hi
      exact k B2 h' s.toks _ _ (Le.refl _) Hn ⟨_, _, fun i o => o.cls = .type "list_iterator" ∧ o.data = .fields #[.ref l0, .int i 0], _, led3, rfl, rfl, Src.list (A := A.in1) hh e0 rs (hsrc e0), qq⟩
    | tup e0 rs =>
      rename_i l0 n0 vs0 xs0
      refine call_enumerate_tuple (H.keep _ _ e0) fun h' he hi hk => ?_
      have Hn := Hp.new2 (c := .prd fun o => ∃ old, o = { cls := .type "enumerate", dict := none, data := .fields #[.none, .bool false, .ref s.heap.objs.size, rawInt ((0 : Nat) : Int), .none, old], slots := #[] })
        (d := .prd fun o => o.cls = .type "tuple_iterator" ∧ o.data = .fields #[.ref l0, .int ((0 : Nat) : Int) 0]) H hn1 (fresh_none _) (Nat.succ_ne_self _) hk ⟨_, he, .none, rfl⟩ hi
      exact k B2 h' s.toks _ _ (Le.refl _) Hn ⟨_, _, fun i o => o.cls = .type "tuple_iterator" ∧ o.data = .fields #[.ref l0, .int i 0], _, led3, rfl, rfl, Src.tup (A := A.in1) hh e0 rs (hsrc e0), qq⟩
    | str =>
      rename_i t0 tk0
      refine call_enumerate_str fun h' he hi hsz hk => ?_
      have Hn := Hp.new2 (c := .prd fun o => ∃ old, o = { cls := .type "enumerate", dict := none, data := .fields #[.none, .bool false, .ref s.heap.objs.size, rawInt ((0 : Nat) : Int), .none, old], slots := #[] })
        (d := .prd fun o => o.cls = .type (strIterType t0) ∧ o.data = .fields #[.str t0 tk0, .int ((0 : Nat) : Int) 0]) H hn1 (fresh_none _) (Nat.succ_ne_self _) hk ⟨_, he, .none, rfl⟩ hi
      exact k B2 h' s.toks _ _ (Le.refl _) Hn ⟨_, _, fun i o => o.cls = .type (strIterType t0) ∧ o.data = .fields #[.str t0 tk0, .int i 0], _, led3, rfl, rfl, Src.str (A := A.in1) hh, qq⟩
    | _ => exact qq.elim
  · rintro B2 h2 tk2 _ v le2 H2 ⟨r, it, S0, ys, led2, rfl, rfl, S, qq⟩
    obtain ⟨o, eo, old, rfl⟩ := (H2.own _ (.head _)).2
    refine wpAny_pyIter_enum (s := { s with heap := h2, toks := tk2 }) eo ?_
    exact k B2 h2 tk2 led2 (enmOwn r it S0) _ _ (le1.trans le2) H2 (.enum ht hh S) qq

/-! ### in, list(range(..)) -/
theorem in_tup_sound {B : Fz} {v a : Value} {ns : List Int} {n : Int} {s : Shared} {K : Value → Shared → Prop} (rv : VR B v (.int n)) (ra : VR B a (.tup (mi ns))) (hB : Le B s.heap.get?) (k : K (.bool (ns.contains n)) s) : wpAny (model prog w) A (compareOp .In v a) K NoE s := by
  cases rv
  rename_i t
  cases ra with
  | tup e rs =>
    obtain ⟨xs, h1, h2⟩ := rs.intItems
    refine PySem.SeqAt.in_tupleAt (fun y => match y with | .int k _ => k == n | _ => false) ⟨_, hB _ _ e, rfl, _, rfl⟩ (fun y hy => ?_) ?_
    · rw [h1] at hy
      simp only [PySem.intItems, Array.mem_map] at hy
      obtain ⟨p, hp, rfl⟩ := hy
      exact PySem.SeqAt.EqAt.int_int p.1 p.2 n t
    · have : (ns.contains n) = ((PySem.intItems xs).any fun y => match y with | .int k _ => k == n | _ => false) := by
        rw [← h2, PySem.intItems, Array.any_map, ← Array.any_toList, List.contains_eq_any_beq, List.any_map]
        congr 1
        funext p
        show (n == p.1) = (p.1 == n)
        rw [Bool.eq_iff_iff, beq_iff_eq, beq_iff_eq]; exact eq_comm
      rw [h1, ← this]; exact k
theorem T1.inT {l r : Expr} {pos} (h : E1 prog w h₀ A env m led l (fun led1 x => E1 prog w h₀ A env m led1 r (fun led2 y => ∃ n ns, x = .int n ∧ y = .tup (mi ns) ∧ QT led2 (ns.contains n))))
    (hm : behindInMarks .In r = false := by rfl) : T1 prog w h₀ A env m led (.Compare l [.In] [r] pos) QT := fun B s K H k => by
  refine wpAny_isTrue_Compare1 (E1.use h H fun B1 h1 tk1 a x led1 le1 H1 ra q => ?_) hm
  refine E1.use q H1 fun B2 h2 tk2 b y led2 le2 H2 rb qX => ?_
  obtain ⟨n, ns, rfl, rfl, q2⟩ := qX
  exact in_tup_sound (s := { s with heap := h2, toks := tk2 }) (ra.mono le2) rb H2.keep (wpAny_truthy_bool (k B2 h2 tk2 _ _ (le1.trans le2) H2 ⟨led2, rfl, q2⟩))

theorem b_range3 {a b c : Int} (hc : c ≠ 0) (hp : Builtin.divisionGoesByPylong (b - a) c = false) (h : ∀ r, Q ((r, .prd (rngO a b c)) :: led) (.obj r)) : Cl prog w h₀ A (fled env m led) (.ty "range") [.int a, .int b, .int c] [] (Ret env m Q) :=
  Cl.ty3 fun B v u q s K r r2 r3 H k => by
    obtain ⟨_, rfl⟩ := r.int_
    obtain ⟨_, rfl⟩ := r2.int_
    obtain ⟨_, rfl⟩ := r3.int_
    refine call_range_3 hc (k B _ _ _ _ (Le.refl _) ((H.new (c := .prd (rngO a b c)) (fresh_none _) (fun b o e => Heap.get?_push_of_some _ e) ⟨_, Heap.get?_push_size _ rfl, _, _, _, rfl⟩).perm swap2) ⟨_, .obj, _, rfl, h _⟩) (.inl hp)
theorem vrs_ints_of {B : Fz} : ∀ (l : List Value) (ns : List Int), l.length = ns.length → (∀ (i : Nat) (v : Value) (n : Int), l[i]? = some v → ns[i]? = some n → ∃ t, v = Value.int n t) → VRs B l (mi ns)
  | [], [], _, _ => .nil
  | v :: l, n :: ns, hl, h => by
    obtain ⟨t, rfl⟩ := h 0 v n rfl rfl
    exact .cons .int (vrs_ints_of l ns (by simpa using hl) fun i => h (i + 1))
  | [], _ :: _, h, _ => by simp at h
  | _ :: _, [], h, _ => by simp at h
theorem b_list_range {r : Addr} {a b c : Int} {n : Nat} (hh : A.handled = none) (hsmall : Builtin.Range.small a b c = true) (hn : Builtin.Range.rangeSize a b c = n) (hz : n ≤ 2 ^ 20)
    (h : NewL led (mi ((List.range n).map fun i => a + (i : Nat) * c)) Q) : Cl prog w h₀ A (fled env m ((r, .prd (rngO a b c)) :: led)) (.ty "list") [.obj r] [] (Ret env m Q) :=
  ⟨trivial, fun B fv vs ks rf rs rk s K H k => by
    cases rf; cases rk; cases rs with | cons rr rs => ?_
    cases rs; cases rr
    obtain ⟨o, eo, t, u, v, rfl⟩ := (H.own (r, .prd (rngO a b c)) (by simp)).2
    refine call_list_range hh eo hsmall hn (by lia) fun h' tk acc' c' hk hl hi => ?_
    have H1 : Hp h₀ B s.heap (fled env m led) := H.sub ((List.sublist_cons_self _ _).cons_cons _)
    obtain ⟨i1, i2⟩ := hi
    have hvr : VRs B acc'.toList (mi ((List.range n).map fun i => a + (i : Nat) * c)) := by
      refine vrs_ints_of _ _ (by simp; lia) fun i v k hv hk => ?_
      have hlt : i < n := by
        have := (List.getElem?_eq_some_iff.mp hv).1
        rw [Array.length_toList] at this; lia
      rw [List.getElem?_map, List.getElem?_range hlt] at hk
      cases hk
      exact i2 i v (by simpa using hv)
    refine newL_sound (s := s) (n := c') (l := acc'.toList) h H1 hvr (fresh_none _) hk (by simpa using hl) (fun B' h' tk l r le H' p => k B' h' tk l r le H' ?_) tk
    obtain ⟨z, l1, e, rz, q⟩ := p
    exact ⟨z, rz, l1, e, q⟩⟩
end
end Yy

end

section
set_option maxRecDepth 100000
namespace Yy
open PySem PySem.W PySem.Calls PyProof.Rows

section
variable {Q : MV → Prop} {Qb : Bool → Prop} {a b : Int} {s t : Str}
theorem CmpQ.eqI (h : Q (.bool (decide (a = b)))) : CmpQ .Eq (.int a) (.int b) Q := by
  have : (a == b) = decide (a = b) := by rw [Bool.eq_iff_iff]; simp
  exact .eqi (by rw [this]; exact h)
theorem CmpQ.neI (h : Q (.bool (decide (a ≠ b)))) : CmpQ .NotEq (.int a) (.int b) Q := by
  have : (a != b) = decide (a ≠ b) := by rw [Bool.eq_iff_iff]; simp
  exact .nei (by rw [this]; exact h)
theorem CmpQ.ltI (h : Q (.bool (decide (a < b)))) : CmpQ .Lt (.int a) (.int b) Q := .lti h
theorem CmpQ.leI (h : Q (.bool (decide (a ≤ b)))) : CmpQ .LtE (.int a) (.int b) Q := .lei h
theorem CmpQ.gtI (h : Q (.bool (decide (a > b)))) : CmpQ .Gt (.int a) (.int b) Q := .gti h
theorem CmpQ.geI (h : Q (.bool (decide (a ≥ b)))) : CmpQ .GtE (.int a) (.int b) Q := .gei h
theorem CmpQ.eqS (h : Q (.bool (decide (s = t)))) : CmpQ .Eq (.str s) (.str t) Q := by
  have : (s == t) = decide (s = t) := by rw [Bool.eq_iff_iff]; simp
  exact .eqs (by rw [this]; exact h)
theorem CmpQ.neS (h : Q (.bool (decide (s ≠ t)))) : CmpQ .NotEq (.str s) (.str t) Q := by
  have : (s != t) = decide (s ≠ t) := by rw [Bool.eq_iff_iff]; simp
  exact .nes (by rw [this]; exact h)
theorem CmpQ.isN (h : Q (.bool true)) : CmpQ .Is .none .none Q := .isn h
theorem CmpQ.isO {x : Addr} (h : Q (.bool false)) : CmpQ .Is (.obj x) .none Q := .iso h
theorem CmpQ.isI (h : Q (.bool false)) : CmpQ .Is (.int a) .none Q := .isi h
theorem TruQ.bo {v : Bool} (h : Qb v) : TruQ (.bool v) Qb := .bool h
theorem TruQ.i (h : Qb (decide (a ≠ 0))) : TruQ (.int a) Qb := by
  have : (a != 0) = decide (a ≠ 0) := by rw [Bool.eq_iff_iff]; simp
  exact .int (by rw [this]; exact h)
theorem TruQ.n (h : Qb false) : TruQ .none Qb := .none h
theorem BinQ.addI (h : Q (.int (a + b))) : BinQ .Add (.int a) (.int b) Q := .add h
theorem BinQ.subI (h : Q (.int (a - b))) : BinQ .Sub (.int a) (.int b) Q := .sub h
theorem BinQ.mulI (h : Q (.int (a * b))) (h' : IntMulOk a b) : BinQ .Mult (.int a) (.int b) Q := .mul h h'
theorem BinQ.fdivI (h : Q (.int (a.fdiv b))) (h0 : b ≠ 0) (h' : Builtin.divisionGoesByPylong a b = false) : BinQ .FloorDiv (.int a) (.int b) Q := .fdiv h h0 h'
theorem BinQ.modI (h : Q (.int (a.fmod b))) (h0 : b ≠ 0) : BinQ .Mod (.int a) (.int b) Q := .mod h h0
theorem BinQ.powI (h : Q (.int (a ^ b.toNat))) (h' : 0 ≤ b ∧ (Builtin.Int.intBits a : Int) * b ≤ 2 ^ 27) : BinQ .Pow (.int a) (.int b) Q := .pow h h'
theorem BinQ.shlI (h : Q (.int (a * 2 ^ b.toNat))) (h' : 0 ≤ b ∧ (Builtin.Int.intBits a : Int) + b ≤ 2 ^ 27) : BinQ .LShift (.int a) (.int b) Q := .shl h h'
theorem BinQ.shrI (h : Q (.int (a.fdiv (2 ^ b.toNat)))) (h' : 0 ≤ b) : BinQ .RShift (.int a) (.int b) Q := .shr h h'
theorem BinQ.andI (h : Q (.int (Builtin.bitAnd a b))) : BinQ .BitAnd (.int a) (.int b) Q := .and h
theorem BinQ.orI (h : Q (.int (Builtin.bitOr a b))) : BinQ .BitOr (.int a) (.int b) Q := .or h
theorem BinQ.xorI (h : Q (.int (Builtin.bitXor a b))) : BinQ .BitXor (.int a) (.int b) Q := .xor h
theorem BinQ.addS (h : Q (.str (s ++ t))) (h' : s.length + t.length ≤ sizeLine) : BinQ .Add (.str s) (.str t) Q := .adds h h'
theorem BinQ.mulS (h : Q (.str (Txt.mul s b))) (h' : PySem.MulOk s b) : BinQ .Mult (.str s) (.int b) Q := .muls h h'
theorem AugQ.addI (h : Q (.int (a + b))) : AugQ .Add (.int a) (.int b) Q := .addi h
theorem AugQ.subI (h : Q (.int (a - b))) : AugQ .Sub (.int a) (.int b) Q := .subi h
theorem AugQ.shlI (h : Q (.int (a * 2 ^ b.toNat))) (h' : 0 ≤ b ∧ (Builtin.Int.intBits a : Int) + b ≤ 2 ^ 27) : AugQ .LShift (.int a) (.int b) Q := .shl h h'
theorem AugQ.shrI (h : Q (.int (a.fdiv (2 ^ b.toNat)))) (h' : 0 ≤ b) : AugQ .RShift (.int a) (.int b) Q := .shr h h'
theorem two_dec {p : Prop} [Decidable p] {P1 P2 : Prop} (h1 : p → P1) (h2 : ¬p → P2) : (decide p = true → P1) ∧ (decide p = false → P2) :=
  ⟨fun h => h1 (of_decide_eq_true h), fun h => h2 (of_decide_eq_false h)⟩
theorem two_yes {P1 P2 : Prop} (h : P1) : (true = true → P1) ∧ (true = false → P2) := ⟨fun _ => h, fun h => nomatch h⟩
theorem two_no {P1 P2 : Prop} (h : P2) : (false = true → P1) ∧ (false = false → P2) := ⟨fun h => (nomatch h), fun _ => h⟩
theorem two_not {p : Prop} [Decidable p] {P1 P2 : Prop} (h1 : ¬p → P1) (h2 : p → P2) : ((!decide p) = true → P1) ∧ ((!decide p) = false → P2) :=
  ⟨fun h => h1 (by simpa using h), fun h => h2 (by simpa using h)⟩
end

/-! ### texts as lists of code points -/
noncomputable abbrev St (l : List Nat) : Str := ⟨l.toArray⟩
theorem St.inj {a b : List Nat} : St a = St b ↔ a = b := ⟨fun h => by injection h with h; simpa using h, fun h => by rw [h]⟩
theorem St.len {a : List Nat} : (St a).length = a.length := by show a.toArray.size = _; simp
theorem to20 {x : Nat} (h : x ≤ 40) : x ≤ 2 ^ 20 := Nat.le_trans h (by decide)
theorem to24 {x : Nat} (h : x ≤ 40) : x ≤ sizeLine := Nat.le_trans h (by decide)
theorem to62 {x : Nat} (h : x ≤ 40) : x < 2 ^ 62 := Nat.lt_of_le_of_lt h (by decide)
theorem dr62 {a : List Nat} {k : Nat} (h : a.length ≤ 40) : (a.drop k).length < 2 ^ 62 := to62 (by rw [List.length_drop]; exact Nat.le_trans (Nat.sub_le _ _) h)
theorem tk62 {a : List Nat} {k : Nat} (h : a.length ≤ 40) : (a.take k).length < 2 ^ 62 := to62 (by rw [List.length_take]; exact Nat.le_trans (Nat.min_le_right _ _) h)
theorem TruQ.s {a : List Nat} {Qb : Bool → Prop} (hz : a.length < 2 ^ 62) (h : Qb (decide (a ≠ []))) : TruQ (.str (St a)) Qb := by
  refine .str (by rw [St.len]; lia) ?_
  have : (((St a).length : Int) != 0) = decide (a ≠ []) := by
    rw [Bool.eq_iff_iff, St.len]; simp
  rw [this]; exact h
/-- the slices by ones -/
theorem pick_nat (l : List Nat) (a b : Nat) (hb : b ≤ l.length) : ((List.range (b - a)).map fun k => a + k).filterMap (l.toArray[·]?) = (l.drop a).take (b - a) := by
  induction h : b - a generalizing a with
  | zero => simp
  | succ n ih =>
    have hab : a < b := Nat.lt_of_sub_pos (h ▸ Nat.succ_pos n)
    have hlt : a < l.length := Nat.lt_of_lt_of_le hab hb
    rw [List.range_succ_eq_map, List.map_cons, List.filterMap_cons]
    have e0 : l.toArray[a + 0]? = some l[a] := by simp [hlt]
    rw [e0]
    have e1 := ih (a + 1) (by rw [← Nat.sub_sub, h, Nat.add_sub_cancel])
    rw [List.drop_eq_getElem_cons hlt, List.take_succ_cons, ← e1]
    simp only [List.map_map]
    congr 2
    apply List.map_congr_left
    intro k _
    exact (Nat.succ_add_eq_add_succ a k).symm
theorem St.slice (a : List Nat) (lo hi : Option Int) : Txt.slice (St a) lo hi = St ((a.drop (lo.elim 0 (clipAt a.length))).take (hi.elim a.length (clipAt a.length) - lo.elim 0 (clipAt a.length))) := by
  have hl : (St a).length = a.length := St.len
  have e : Builtin.Str.strSliceIndices lo hi 1 a.length = (List.range (hi.elim a.length (clipAt a.length) - lo.elim 0 (clipAt a.length))).map fun k => lo.elim 0 (clipAt a.length) + k := by
    unfold Builtin.Str.strSliceIndices
    have : ∀ (x y : Nat), sliceRange (x : Int) (y : Int) 1 = (List.range (y - x)).map fun k => x + k := by
      intro x y
      unfold sliceRange
      have ec : (if (1 : Int) > 0 then (if (x : Int) < (y : Int) then ((y : Int) - x + 1 - 1) / 1 else 0) else (if (x : Int) > y then ((x : Int) - y - 1 - 1) / (-1) else 0)).toNat = y - x := by
        rw [if_pos (by decide)]
        split <;> simp <;> lia
      simp only [ec]
      apply List.map_congr_left
      intro k _
      rw [Int.one_mul]; rfl
    rw [← this]
    cases lo <;> cases hi <;> simp [clipAt_cast]
  have hc : hi.elim a.length (clipAt a.length) ≤ a.length := by
    cases hi with
    | none => exact Nat.le_refl _
    | some i => have := clipAt_cast a.length i; show clipAt a.length i ≤ _; split at this <;> exact Int.ofNat_le.mp (by rw [this]; exact Int.max_le.mpr ⟨Int.natCast_nonneg _, Int.min_le_right _ _⟩)
  unfold Txt.slice
  rw [hl, e]
  simp only [List.length_map, List.length_range, beq_self_eq_true, Bool.true_and]
  split
  · rename_i h
    have h' : hi.elim a.length (clipAt a.length) - lo.elim 0 (clipAt a.length) = a.length := by simpa using h
    rw [h']
    rcases Nat.eq_zero_or_pos a.length with z | z
    · rw [List.length_eq_zero_iff.mp z]; simp
    · have : lo.elim 0 (clipAt a.length) = 0 := by
        rcases Nat.eq_zero_or_pos (lo.elim 0 (clipAt a.length)) with q | q
        · exact q
        · exact absurd h' (Nat.ne_of_lt (Nat.lt_of_le_of_lt (Nat.sub_le_sub_right hc _) (Nat.sub_lt z q)))
      rw [this]; simp
  · rw [pick_nat a _ _ hc]
theorem SlQ.s {led : Led} {Q : Led → MV → Prop} {a : List Nat} {lo hi : Option Int} (hz : a.length ≤ sizeLine) (h : Q led (.str (St ((a.drop (lo.elim 0 (clipAt a.length))).take (hi.elim a.length (clipAt a.length) - lo.elim 0 (clipAt a.length)))))) : SlQ led (.str (St a)) lo hi Q :=
  ⟨by rw [St.len]; exact hz, by rw [St.slice]; exact h⟩
theorem SlQ.sFrom {led : Led} {Q : Led → MV → Prop} {a : List Nat} {k : Nat} (hz : a.length ≤ sizeLine) (h : Q led (.str (St (a.drop k)))) : SlQ led (.str (St a)) (some (k : Int)) none Q := by
  refine SlQ.s hz ?_
  have : (a.drop (clipAt a.length (k : Int))).take (a.length - clipAt a.length (k : Int)) = a.drop k := by
    rw [clipAt_nat, List.take_of_length_le (by simp)]
    rcases Nat.le_total k a.length with h | h
    · rw [Nat.min_eq_left h]
    · rw [Nat.min_eq_right h, List.drop_of_length_le (Nat.le_refl _), List.drop_of_length_le h]
  show Q led (.str (St ((a.drop (clipAt a.length (k : Int))).take (a.length - clipAt a.length (k : Int)))))
  rw [this]; exact h
theorem SlQ.sBut {led : Led} {Q : Led → MV → Prop} {a : List Nat} {k : Nat} (hk : 1 ≤ k) (hz : a.length ≤ sizeLine) (h : Q led (.str (St (a.take (a.length - k))))) : SlQ led (.str (St a)) none (some (-(k : Int))) Q := by
  refine SlQ.s hz ?_
  show Q led (.str (St ((a.drop 0).take (clipAt a.length (-(k : Int)) - 0))))
  rw [clipAt_neg _ _ hk, Nat.sub_zero, List.drop_zero]; exact h
theorem SlQ.sAll {led : Led} {Q : Led → MV → Prop} {a : List Nat} (hz : a.length ≤ sizeLine) (h : Q led (.str (St a))) : SlQ led (.str (St a)) none none Q := by
  refine SlQ.s hz ?_
  show Q led (.str (St ((a.drop 0).take (a.length - 0))))
  rw [List.drop_zero, Nat.sub_zero, List.take_of_length_le (Nat.le_refl _)]; exact h
/-- a letter of a text -/
theorem SubQ.s {led : Led} {Q : MV → Prop} {a : List Nat} {k c : Nat} (hk : k < 2 ^ 62) (hc : a[k]? = some c) (h : Q (.str (St [c]))) : SubQ led (.str (St a)) (.int (k : Int)) Q := by
  refine ⟨⟨by lia, by lia⟩, c, ?_, h⟩
  have hlt := (List.getElem?_eq_some_iff.mp hc).1
  have : seqIndex? (k : Int) (St a).length = some k := by
    have e0 : ¬ ((k : Int) < 0) := by lia
    rw [St.len]
    simp [seqIndex?, e0]
    lia
  rw [this]
  show (a.toArray)[k]? = _
  simpa using hc
theorem SubQ.sNeg {led : Led} {Q : MV → Prop} {a : List Nat} {k c : Nat} (hk : 1 ≤ k) (hk' : k ≤ a.length) (hz : a.length < 2 ^ 62) (hc : a[a.length - k]? = some c) (h : Q (.str (St [c]))) : SubQ led (.str (St a)) (.int (-(k : Int))) Q := by
  refine ⟨⟨by lia, by lia⟩, c, ?_, h⟩
  have : seqIndex? (-(k : Int)) (St a).length = some (a.length - k) := by
    have e0 : -(k : Int) < 0 := Int.neg_neg_of_pos (Int.ofNat_lt.mpr hk)
    have e1 : (a.length : Int) - (k : Int) = ((a.length - k : Nat) : Int) := (Int.ofNat_sub hk').symm
    have e2 : a.length - k < a.length := Nat.sub_lt (Nat.lt_of_lt_of_le hk hk') hk
    rw [St.len]
    unfold seqIndex?
    rw [if_pos e0, Int.add_comm, ← Int.sub_eq_add_neg, e1]
    exact if_pos (by rw [Bool.and_eq_true]; exact ⟨decide_eq_true (Int.natCast_nonneg _), decide_eq_true (Int.ofNat_lt.mpr e2)⟩)
  rw [this]
  show (a.toArray)[a.length - k]? = _
  simpa using hc
end Yy

end

section
set_option maxRecDepth 100000
namespace Yy
open PySem PySem.W PySem.Calls PyProof.Rows

/-- what is known of the names -/
noncomputable def Has (m F : Vars) : Prop := ∀ x y, F.lookup x = some y → m.lookup x = some y
theorem ncl {n k : Nat} {K : Int} (h : n ≤ k) (hk : (k : Int) < K) : (n : Int) < K := Int.lt_of_le_of_lt (Int.ofNat_le.mpr h) hk
theorem ix {n i : Nat} (h : i < n) (hn : n ≤ 2 ^ 20) : 0 ≤ (i : Int) ∧ (i : Int) < 2 ^ 63 := ⟨Int.natCast_nonneg _, ncl (Nat.le_trans (Nat.le_of_lt h) hn) (by decide)⟩
theorem Has.refl (m : Vars) : Has m m := fun _ _ h => h
theorem Has.nil {m : Vars} : Has m [] := fun _ _ h => by cases h
theorem Has.cons {m F : Vars} {x : Str} {y : MV} (h : m.lookup x = some y) (r : Has m F) : Has m ((x, y) :: F) := fun z u e => by
  rw [List.lookup_cons] at e
  by_cases hz : z = x
  · subst hz; simp only [beq_self_eq_true] at e; cases e; exact h
  · rw [beq_eq_false_iff_ne.mpr hz] at e; exact r z u e
theorem Has.trans {a b c : Vars} (h : Has a b) (k : Has b c) : Has a c := fun x y e => h x y (k x y e)

section
variable {prog : Program} {w : World} {h₀ : Heap}
variable {A : Around} {env : Env} {m : Vars} {led : Led} {Q : Led → MV → Prop} {QT : Led → Bool → Prop} {Qn : Vars → Led → Prop} {Qr : Led → MV → Prop}

theorem Xs.has {st : List Stmt} {F : Vars} (hm : Has m F) (h : Xs prog w h₀ A env F led st Qn Qr) : Xs prog w h₀ A env m led st Qn Qr := Xs.weak hm (List.Sublist.refl _) h
theorem As.has {t : Expr} {y : MV} {F : Vars} (hm : Has m F) (h : As prog w h₀ A env F led t y Qn) : As prog w h₀ A env m led t y Qn := fun B v rv s K H k => h B v rv s K (H.vars hm) k

theorem ForR.st {σ : Type} (F : Nat → σ → Vars) (L : Nat → σ → Led) (P : Nat → σ → Prop) {t : Expr} {body : List Stmt} {items : List MV} (s0 : σ) (h0 : P 0 s0) (hm : Has m (F 0 s0)) (hl : led = L 0 s0)
    (step : ∀ i y s, items[i]? = some y → P i s → As prog w h₀ A env (F i s) (L i s) t y (fun m' l' => Xs prog w h₀ A env m' l' body (fun m2 l2 => ∃ s', P (i + 1) s' ∧ Has m2 (F (i + 1) s') ∧ l2 = L (i + 1) s') Qr))
    (fin : ∀ m s, P items.length s → Has m (F items.length s) → Qn m (L items.length s)) : ForR prog w h₀ A env t body Qn Qr items m led := by
  have main : ∀ (rest : List MV) (i : Nat) m s, i + rest.length = items.length → items.drop i = rest → P i s → Has m (F i s) → ForR prog w h₀ A env t body Qn Qr rest m (L i s) := by
    intro rest
    induction rest with
    | nil =>
      intro i m s hi _ hP hm
      have : i = items.length := by simpa using hi
      subst this
      exact fin m s hP hm
    | cons y ys ih =>
      intro i m s hi hd hP hm
      have hlt : i < items.length := by rw [← hi]; exact Nat.lt_add_of_pos_right (Nat.succ_pos _)
      have hy : items[i]? = some y := by
        have := congrArg (·[0]?) hd
        simpa using this
      have hd' : items.drop (i + 1) = ys := by
        have := congrArg (List.drop 1) hd
        simpa using this
      show As prog w h₀ A env m (L i s) t y (fun m' l' => Xs prog w h₀ A env m' l' body (ForR prog w h₀ A env t body Qn Qr ys) Qr)
      refine As.has hm ?_
      intro B v rv sh K H k
      refine step i y s hy hP B v rv sh K H fun B' h' tk l r le H' p => k B' h' tk l r le H' ?_
      obtain ⟨m', l', e, q⟩ := p
      refine ⟨m', l', e, q.mono (fun m2 l2 ⟨s', hP', hm', hl'⟩ => ?_) fun _ _ x => x⟩
      subst hl'
      exact ih (i + 1) m2 s' (by rw [← hi, List.length_cons, Nat.add_right_comm, Nat.add_assoc]) hd' hP' hm'
  rw [hl]
  exact main items 0 m s0 (by simp) rfl h0 hm

theorem X1.whileS {σ : Type} (F : σ → Vars) (L : σ → Led) (P : Nat → σ → Prop) {test : Expr} {body : List Stmt} {pos : Pos} (n : Nat) (s0 : σ) (h0 : P n s0) (hm : Has m (F s0)) (hl : led = L s0)
    (turn : ∀ n s, P n s → T1 prog w h₀ A env (F s) (L s) test (fun l b => (b = true → Xs prog w h₀ A env (F s) l body (fun m' l' => ∃ k s', k < n ∧ P k s' ∧ Has m' (F s') ∧ l' = L s') Qr) ∧ (b = false → Qn (F s) l))) : X1 prog w h₀ A env m led (.While test body [] pos) Qn Qr := fun B sh K H k => by
  refine whl_start n ?_
  have main : ∀ n s, P n s → ∀ B sh, Hp h₀ B sh.heap (fled env (F s) (L s)) → (∀ B' h' tk led' r, Le B B' → Hp h₀ B' h' led' → FP1 env Qn Qr B' led' r → K r { sh with heap := h', toks := tk }) → WhlRest prog w A NoE env test body [] K n sh := by
    intro n
    induction n using Nat.strongRecOn with
    | ind n ih =>
      intro s hI B sh H k
      show WhlRest prog w A NoE env test body [] K (0 + 1) sh
      refine whl_turn (fun _ _ q => False.elim q) (turn n s hI B sh _ H ?_)
      rintro B1 h1 tk1 _ b le1 H1 ⟨led1, rfl, q1, q2⟩
      cases b with
      | false => exact WhlIf.no rfl (wpAny_execs_nil (k B1 h1 tk1 _ _ le1 H1 ⟨_, led1, rfl, q2 rfl⟩))
      | true =>
        refine WhlIf.yes rfl (q1 rfl B1 _ _ H1 ?_)
        rintro B2 h2 tk2 l f le2 H2 p
        cases f with
        | next =>
          obtain ⟨m', led2, rfl, j, s', hj, hI', hm', rfl⟩ := p
          exact ih j hj s' hI' B2 _ (H2.vars hm') fun B3 h3 tk3 l r le3 H3 p => k B3 h3 tk3 l r ((le1.trans le2).trans le3) H3 p
        | ret v => exact k B2 h2 tk2 l _ (le1.trans le2) H2 p
        | _ => exact p.elim
  rw [hl] at H
  exact main n s0 h0 B sh (H.vars hm) k

theorem X1.cut (F : Vars) (L : Led) {st : Stmt} {rest : List Stmt} (h : X1 prog w h₀ A env m led st (fun m' l' => Has m' F ∧ l' = L) Qr) (k : Xs prog w h₀ A env F L rest Qn Qr) : X1 prog w h₀ A env m led st (fun m' l' => Xs prog w h₀ A env m' l' rest Qn Qr) Qr :=
  fun B s K H k' => h B s K H fun B' h' tk l r le H' p => k' B' h' tk l r le H' (by
    cases r with
    | next => obtain ⟨m', l', e, hm, rfl⟩ := p; exact ⟨m', _, e, Xs.has hm k⟩
    | ret v => exact p
    | _ => exact p)

/-- the bounds of a slice -/
noncomputable def BvQ (x : MV) (Q : Option Int → Prop) : Prop := match x with
  | .none => Q none
  | .int k => Q (some k)
  | _ => False
theorem BvQ.n {Q : Option Int → Prop} (h : Q none) : BvQ .none Q := h
theorem BvQ.i {Q : Option Int → Prop} {k : Int} (h : Q (some k)) : BvQ (.int k) Q := h
theorem BdQ.no {Q : Led → Option Int → Prop} (h : Q led Option.none) : BdQ env m prog w h₀ A led Option.none Q := h
theorem BdQ.so {e : Expr} {Q : Led → Option Int → Prop} (h : E1 prog w h₀ A env m led e (fun l x => BvQ x (Q l))) : BdQ env m prog w h₀ A led (some e) Q := h.mono fun l x q => by
  unfold BvQ at q
  split at q
  · exact .inl ⟨rfl, q⟩
  · exact .inr ⟨_, rfl, q⟩
  · exact q.elim

theorem Es.ni {Q : Led → List MV → Prop} (h : Q led []) : Es prog w h₀ A env m led [] Q := h
theorem Es.co {e : Expr} {es : List Expr} {Q : Led → List MV → Prop} (h : E1 prog w h₀ A env m led e fun l x => Es prog w h₀ A env m l es fun l' xs => Q l' (x :: xs)) : Es prog w h₀ A env m led (e :: es) Q := h
theorem Cl.fn {f : MV} {args : List MV} {kw : Vars} {v : MV} (h : Cl prog w h₀ A (fled env m led) f args kw (fun l x => l = fled env m led ∧ x = v)) (k : Q led v) : Cl prog w h₀ A (fled env m led) f args kw (Ret env m Q) :=
  h.mono fun l x ⟨e, ex⟩ => ⟨led, e, ex ▸ k⟩
theorem f_len {a : List Nat} (hz : a.length ≤ 2 ^ 20) (k : Q led (.int a.length)) : Cl prog w h₀ A (fled env m led) (.bi "len") [.str (St a)] [] (Ret env m Q) :=
  b_len_str (by rw [St.len]; exact ncl hz (by decide)) ⟨_, rfl, by rw [St.len]; exact k⟩
theorem f_lenL {xs : List MV} (hz : xs.length ≤ 2 ^ 20) (k : Q led (.int xs.length)) : Cl prog w h₀ A (fled env m led) (.bi "len") [.lst xs] [] (Ret env m Q) :=
  b_len_lst (ncl hz (by decide)) ⟨_, rfl, k⟩
theorem f_lenO {a : Addr} {xs : List MV} (hm : (a, LC.list xs) ∈ led) (hz : xs.length ≤ 2 ^ 20) (k : Q led (.int xs.length)) : Cl prog w h₀ A (fled env m led) (.bi "len") [.obj a] [] (Ret env m Q) :=
  b_len_own (List.mem_cons_of_mem _ hm) (ncl hz (by decide)) ⟨_, rfl, k⟩
theorem f_min2 {a b : Int} (hh : A.handled = none) (k : Q led (.int (min a b))) : Cl prog w h₀ A (fled env m led) (.bi "min") [.int a, .int b] [] (Ret env m Q) := b_min2 hh ⟨_, rfl, k⟩
theorem f_max2 {a b : Int} (hh : A.handled = none) (k : Q led (.int (max a b))) : Cl prog w h₀ A (fled env m led) (.bi "max") [.int a, .int b] [] (Ret env m Q) := b_max2 hh ⟨_, rfl, k⟩

/-- a[:post or None] -/
theorem E1.upto {value : Expr} {x : Str} {p1 p2 p pos : Pos} {k0 : Nat} {pn : Pos} {k : Nat} (hk : env.scope.kind = .function) (hl : env.kindOf x = some .local) (hv : m.lookup x = some (.int (-(k : Int)))) (hd : (x == ("__debug__" : Str)) = false)
    (h : E1 prog w h₀ A env m led value (fun l y => ∃ a, y = .str (St a) ∧ a.length ≤ 2 ^ 20 ∧ Q l (.str (St (a.take (a.length - k))))))
    (ht : ∀ o r, letTemporaryGo value o r = Pure.pure () := by intro _ _; rfl) : E1 prog w h₀ A env m led (.Subscript value (.Slice Option.none (some (.BoolOp .Or [.Name x p1, .Constant .none k0 pn] p2)) Option.none p) pos) Q := by
  have sz : sizeLine = 2 ^ 24 := rfl
  refine E1.slice (h.mono fun l y ⟨a, e, hz, q⟩ => ?_)
  subst e
  refine BdQ.no (BdQ.so (E1.or (E1.loc hk hl hv (TruQ.i ?_) hd)))
  rcases Nat.eq_zero_or_pos k with rfl | hk
  · refine ⟨fun e => by simp at e, fun _ => E1.or1 (E1.none (BvQ.n (SlQ.sAll (by lia) ?_)))⟩
    simpa using q
  · refine ⟨fun _ => BvQ.i (SlQ.sBut (by lia) (by lia) q), fun e => ?_⟩
    simp at e; lia
theorem Rm.less {A : Around} {d d' : Nat} (h : Rm A d) (hd : d' ≤ d) : Rm A d' := ⟨h.handled, Nat.le_trans (Nat.add_le_add_left hd _) h.depth, Nat.le_trans (Nat.add_le_add_left (Nat.mul_le_mul_left 8 hd) _) h.units⟩
theorem rngItems_get {n : Int} {i : Nat} {y : MV} (h : (rngItems n)[i]? = some y) : y = .int i ∧ (i : Int) < n := by
  have hlt : i < n.toNat := by have := (List.getElem?_eq_some_iff.mp h).1; simpa [rngItems] using this
  unfold rngItems at h
  rw [List.getElem?_map, List.getElem?_range hlt] at h
  exact ⟨(Option.some.inj h).symm, Int.lt_toNat.mp hlt⟩
theorem rngItems_len {n : Nat} : (rngItems (n : Int)).length = n := by simp [rngItems]
/-- a loop over range(n) -/
theorem ForR.rng {σ : Type} {n : Nat} (F : Nat → σ → Vars) (L : Nat → σ → Led) (P : Nat → σ → Prop) {t : Expr} {body : List Stmt} (s0 : σ) (h0 : P 0 s0) (hm : Has m (F 0 s0)) (hl : led = L 0 s0)
    (step : ∀ (i : Nat) s, i < n → P i s → As prog w h₀ A env (F i s) (L i s) t (.int (i : Int)) (fun m' l' => Xs prog w h₀ A env m' l' body (fun m2 l2 => ∃ s', P (i + 1) s' ∧ Has m2 (F (i + 1) s') ∧ l2 = L (i + 1) s') Qr))
    (fin : ∀ m s, P n s → Has m (F n s) → Qn m (L n s)) : ForR prog w h₀ A env t body Qn Qr (rngItems (n : Int)) m led :=
  ForR.st F L P s0 h0 hm hl (fun i y s hy hP => by
    obtain ⟨rfl, hi⟩ := rngItems_get hy
    exact step i s (Int.ofNat_lt.mp hi) hP) fun m s => by rw [rngItems_len]; exact fin m s
theorem As.eq {t : Expr} {y y' : MV} (e : y = y') (h : As prog w h₀ A env m led t y' Qn) : As prog w h₀ A env m led t y Qn := e ▸ h
/-- what a call leaves, by its parts -/
theorem Cl.onT {f : MV} {xs : List MV} {kw : Vars} {T : Led → Prop} {V : MV} {pre L : Led} {Q' : Led → MV → Prop} (h : Cl prog w h₀ A L f xs kw (fun l v => ∃ t', T t' ∧ l = pre ++ t' ∧ v = V)) (k : ∀ t', T t' → Q' (pre ++ t') V) : Cl prog w h₀ A L f xs kw Q' :=
  h.mono fun l v q => q.elim fun t' q => q.2.1 ▸ q.2.2 ▸ k t' q.1
theorem Cl.onR {f : MV} {xs : List MV} {kw : Vars} {P : Nat → Prop} {L : Led} {Q' : Led → MV → Prop} (h : Cl prog w h₀ A L f xs kw (fun l v => l = L ∧ ∃ r : Nat, v = .int r ∧ P r)) (k : ∀ r : Nat, P r → Q' L (.int r)) : Cl prog w h₀ A L f xs kw Q' :=
  h.mono fun l v q => q.2.elim fun r p => q.1 ▸ p.1 ▸ k r p.2
theorem Cl.onN {f : MV} {xs : List MV} {kw : Vars} {P : Nat → Prop} {L : Led} {Q' : Led → MV → Prop} {R : Nat} (h : Cl prog w h₀ A L f xs kw (fun l v => l = L ∧ ∃ r : Nat, v = .int r ∧ P r)) (e : ∀ r : Nat, P r → r = R) (k : Q' L (.int (R : Int))) : Cl prog w h₀ A L f xs kw Q' :=
  Cl.onR h fun r hr => e r hr ▸ k
theorem Cl.onI {f : MV} {xs : List MV} {kw : Vars} {P : Nat → Prop} {L : Led} {LL : Nat → Led} {V : MV} {Q' : Led → MV → Prop} (h : Cl prog w h₀ A L f xs kw (fun l v => ∃ r : Nat, l = LL r ∧ v = V ∧ P r)) (k : ∀ r : Nat, P r → Q' (LL r) V) : Cl prog w h₀ A L f xs kw Q' :=
  h.mono fun l v q => q.elim fun r q => q.1 ▸ q.2.1 ▸ k r q.2.2
theorem Cl.onE {f : MV} {xs : List MV} {kw : Vars} {V : MV} {L L' : Led} {Q' : Led → MV → Prop} (h : Cl prog w h₀ A L f xs kw (fun l v => v = V ∧ l = L')) (k : Q' L' V) : Cl prog w h₀ A L f xs kw Q' :=
  h.mono fun l v q => q.1 ▸ q.2 ▸ k
/-- for x in range(n) -/
theorem It1.rng {t : Expr} {x : Str} {np pos : Pos} {e : Expr} {Q : Led → List MV → Prop} (hh : A.handled = Option.none)
    (h : E1 prog w h₀ A env m led (.Name x np) (fun l f => f = .ty "range" ∧ E1 prog w h₀ A env m l e (fun l' y => ∃ n : Nat, y = .int n ∧ n ≤ 2 ^ 20 ∧ Q l' (rngItems n))))
    (hs : starEach [e] env = [e].map fun e => (false, eval e env) := by rfl) : It1 prog w h₀ A env m led t (.Call (.Name x np) [e] [] pos) Q := by
  refine It1.range hh (E1.call (h.mono fun l f ⟨hf, q⟩ => ?_) hs)
  subst hf
  refine Es.co (q.mono fun l' y ⟨n, e, hz, q⟩ => ?_)
  subst e
  exact Es.ni (cl_range fun r => ⟨r, n, _, rfl, rfl, ⟨Int.le_trans (by decide) (Int.natCast_nonneg n), ncl hz (by decide)⟩, q⟩)
theorem mi_get {ns : List Int} {i : Nat} {n : Int} (h : ns[i]? = some n) : (mi ns)[i]? = some (.int n) := by
  unfold mi; rw [List.getElem?_map, h]; rfl
theorem mi_set {ns : List Int} {i : Nat} {n : Int} : (mi ns).set i (.int n) = mi (ns.set i n) := by
  unfold mi; rw [List.map_set]
theorem mi_len {ns : List Int} : (mi ns).length = ns.length := by simp [mi]
theorem all4 {P : List Value → Prop} {n : Nat} (hn : n = 4) (h : ∀ a b c d, P [a, b, c, d]) (vs : List Value) (e : vs.length = n) : P vs := by
  subst hn
  obtain ⟨a, v0, rfl, q0⟩ := cons_of e
  obtain ⟨b, v1, rfl, q1⟩ := cons_of q0
  obtain ⟨c, v2, rfl, q2⟩ := cons_of q1
  obtain ⟨d, v3, rfl, q3⟩ := cons_of q2
  obtain rfl := List.length_eq_zero_iff.mp q3
  exact h a b c d
theorem meth_append : MethS "list" "append" "list.append" := ⟨F.plainAttrs_list, F.slot_list_append, F.type_list_append⟩
theorem meth_insert : MethS "list" "insert" "list.insert" := ⟨F.plainAttrs_list, F.slot_list_insert, F.type_list_insert⟩
theorem meth_reverse : MethS "list" "reverse" "list.reverse" := ⟨F.plainAttrs_list, F.slot_list_reverse, F.type_list_reverse⟩
theorem meth_join : MethS "str" "join" "str.join" := ⟨F.plainAttrs_str, F.slot_str_join, F.type_str_join⟩
theorem meth_split : MethS "str" "split" "str.split" := ⟨F.plainAttrs_str, F.slot_str_split, F.type_str_split⟩
theorem meth_bits : MethS "int" "bit_length" "int.bit_length" := ⟨F.plainAttrs_int, F.slot_int_bit_length, F.type_int_bit_length⟩
theorem Binds.of_kwd {fd : FuncData} {args : List MV} {n : Str} {y : MV} (names : List Str) {T : Addr} {o : Obj} {items : Array Value} {k0 : Nat} (hd : fd.defaults = .ref T) (ho : h₀.get? T = some o) (hs : o.data = .seq items k0)
    (h : ∀ v, ∀ vs : List Value, vs.length = args.length → ∃ k, bindArgs fd ⟨vs, [(n, v)]⟩ = seqItems? fd.defaults >>= k ∧ k (some items) = Pure.pure (names.zip (vs ++ [v]))) : Binds h₀ fd args [(n, y)] (names.zip (args ++ [y])) := fun B s vs ks hle rs rk => by
  cases rk with | cons r rk => ?_
  cases rk
  obtain ⟨k, e1, e2⟩ := h _ vs rs.length
  exact ⟨names.zip (vs ++ [_]), BindsTo.of_defaults hd (hle _ _ ho) hs e1 e2, (rs.append (.cons r .nil)).zip⟩
end
end Yy

end

section
set_option maxRecDepth 100000
namespace Yy
open PySem PySem.W PySem.Calls PyProof.Rows

theorem memH {α : Type} {a : α} {l : List α} : a ∈ a :: l := List.mem_cons_self
theorem memT {α : Type} {a b : α} {l : List α} (h : a ∈ l) : a ∈ b :: l := List.mem_cons_of_mem _ h

section
variable {prog : Program} {w : World} {h₀ : Heap}
variable {A : Around} {env : Env} {m : Vars} {led : Led} {Q : Led → MV → Prop} {QT : Led → Bool → Prop} {Qn : Vars → Led → Prop} {Qr : Led → MV → Prop}

theorem Cl.perm {f args kw} {led' : Led} (hp : led.Perm led') (h : Cl prog w h₀ A led' f args kw Q) (hf : IsFn h₀ led f) : Cl prog w h₀ A led f args kw Q :=
  ⟨hf, fun B fv vs ks a b c => Tr.perm hp (h.2 B fv vs ks a b c)⟩
theorem Cl.permPost {f args kw} (h : Cl prog w h₀ A led f args kw (fun l x => ∃ l2, l.Perm l2 ∧ Q l2 x)) : Cl prog w h₀ A led f args kw Q :=
  ⟨h.1, fun B fv vs ks rf rs rk s K H k => by
    refine h.2 B fv vs ks rf rs rk s _ H ?_
    rintro B1 h1 tk1 l v le1 H1 ⟨x, rv, l2, hp, q⟩
    exact k B1 h1 tk1 l2 v le1 (H1.perm hp) ⟨x, rv, q⟩⟩

/-! ### a def inside a def -/
/-- what the table of inner codes holds -/
noncomputable abbrev TabSt := Option (Addr × Obj)
noncomputable def tabE (P : Addr) (pos : Pos) : TabSt → Led
  | none => [(P, .prd (· = tabObj #[]))]
  | some (c', oc) => [(P, .prd (· = tabObj #[rawInt pos.line, rawInt pos.col, .ref c'])), (c', .prd (· = oc))]
noncomputable def TabGood (qual : Str) : TabSt → Prop
  | none => True
  | some (_, oc) => ∃ vs t, oc.data = .fields vs ∧ vs[1]? = some (.str qual t)

/-- what makeFunction needs of the globals -/
structure MkOk (h₀ : Heap) (c P : Addr) : Prop where
  code : CodeHd h₀ c P
  top : ∃ p loose mean mg mb, Top p loose mean mg mb h₀

theorem mkMiss {B : Fz} {name qual : Str} {params : Arguments} {body : List Stmt} {scope : Scope} {c P : Addr} {pos : Pos} {firstLine : Nat} {clos : List (Str × Addr)} {rest : Led} {s : Shared} {K : Value → Shared → Prop}
    (M : MkOk h₀ c P) (hcl : closureFor scope env = Pure.pure clos) (hge : env.globals = mainGlobals) (hcode : env.code = .ref c) (H : Hp h₀ B s.heap (tabE P pos none ++ rest))
    (k : ∀ f c' oc ctv doc pm h' tk, TabGood qual (some (c', oc)) → Hp h₀ B h' ((f, .prd (· = fnMade name qual params body scope clos doc pm c' ctv)) :: (tabE P pos (some (c', oc)) ++ rest)) → K (.ref f) { s with heap := h', toks := tk }) :
    wpAny (model prog w) A (makeFunction name qual params (.stmts body) scope env [] [] [] pos firstLine) K NoE s := by
  obtain ⟨p, loose, mean, mg, mb, T⟩ := M.top
  have hPe := H.own (P, .prd (· = tabObj #[])) (.head _)
  obtain ⟨hPB, oP, hP, rfl⟩ := hPe
  have hle : Le h₀.get? s.heap.get? := H.base.trans H.keep
  have hP0 : h₀.get? P = none := by
    cases q : h₀.get? P with
    | none => rfl
    | some o => have := H.base _ _ q; rw [hPB] at this; cases this
  have hgs := T.g.keeps hle
  obtain ⟨bm, ob, b1, b2, b3, b4, b5, b6⟩ := T.bmain
  have hgP : mainGlobals ≠ P := fun q => by
    obtain ⟨o, es, ep, e, hd, _⟩ := T.g
    rw [q, hP0] at e; cases e
  have hbP : bm ≠ P := fun q => by rw [q, hP0] at b3; cases b3
  have hbG : bm ≠ mainGlobals := fun q => by
    obtain ⟨o, es, ep, e, hd, _⟩ := T.g
    rw [q, e] at b3; cases b3; rw [hd] at b6; cases b6
  refine makeFunction_K (mg := mg) (ps := #[]) hcl hge hgs hcode (M.code.keeps hle) hP trivial rfl hgP ⟨bm, ob, b1, b2, hbG, hbP, hle _ _ b3, b4, b5, b6⟩ fun c' ctv doc h' tk hx hge' hlt hrec htb => ?_
  obtain ⟨c₂, oc, vs, t, e2, hoc, hd, hv⟩ := hrec
  cases e2
  have hnd := List.nodup_cons.mp (show (P :: rest.map (·.1)).Nodup from H.nodup)
  have hc'n : s.heap.get? c' = none := Heap.get?_none_of_le hge'
  have hc'P : c' ≠ P := fun q => by rw [q] at hc'n; rw [hP] at hc'n; cases hc'n
  have hold := H.old hc'n
  -- the ledger, once the code is there
  have H1 : Hp h₀ B h' ((P, .prd (· = tabObj #[rawInt pos.line, rawInt pos.col, .ref c'])) :: (c', .prd (· = oc)) :: rest) := by
    refine ⟨H.base, fun a o e => hx a o (fun q => by rw [q, hPB] at e; cases e) (H.keep a o e), ?_, fun q hq => ?_⟩
    · rw [List.map_cons, List.map_cons]
      refine List.nodup_cons.mpr ⟨fun z => ?_, List.nodup_cons.mpr ⟨fun z => hold.2 (List.mem_cons_of_mem _ z), hnd.2⟩⟩
      rcases List.mem_cons.mp z with z | z
      · exact hc'P z.symm
      · exact hnd.1 z
    · rcases List.mem_cons.mp hq with rfl | hq
      · exact ⟨hPB, _, by simpa using htb, rfl⟩
      · rcases List.mem_cons.mp hq with rfl | hq
        · exact ⟨hold.1, _, hoc, rfl⟩
        · have := H.own q (List.mem_cons_of_mem _ hq)
          exact ⟨this.1, LC.mono (Le.refl _) (fun o e => hx _ o (fun z => hnd.1 (z ▸ List.mem_map_of_mem (f := (·.1)) hq)) e) this.2⟩
  refine k h'.objs.size c' oc ctv doc ((mg "__name__").getD .none) _ tk ⟨vs, t, hd, hv⟩ ?_
  exact H1.new (fresh_none _) (fun b o e => Heap.get?_push_of_some _ e) ⟨_, Heap.get?_push_size _ rfl, rfl⟩

theorem mkHit {B : Fz} {name qual : Str} {params : Arguments} {body : List Stmt} {scope : Scope} {c P : Addr} {pos : Pos} {firstLine : Nat} {clos : List (Str × Addr)} {rest : Led} {s : Shared} {K : Value → Shared → Prop} {c' : Addr} {oc : Obj}
    (M : MkOk h₀ c P) (hcl : closureFor scope env = Pure.pure clos) (hge : env.globals = mainGlobals) (hcode : env.code = .ref c) (H : Hp h₀ B s.heap (tabE P pos (some (c', oc)) ++ rest))
    (k : ∀ f ctv doc pm h' tk, Hp h₀ B h' ((f, .prd (· = fnMade name qual params body scope clos doc pm c' ctv)) :: (tabE P pos (some (c', oc)) ++ rest)) → K (.ref f) { s with heap := h', toks := tk }) :
    wpAny (model prog w) A (makeFunction name qual params (.stmts body) scope env [] [] [] pos firstLine) K NoE s := by
  obtain ⟨p, loose, mean, mg, mb, T⟩ := M.top
  obtain ⟨hPB, oP, hP, rfl⟩ := H.own (P, .prd (· = tabObj #[rawInt pos.line, rawInt pos.col, .ref c'])) (.head _)
  have hle : Le h₀.get? s.heap.get? := H.base.trans H.keep
  have hP0 : h₀.get? P = none := by
    cases q : h₀.get? P with
    | none => rfl
    | some o => have := H.base _ _ q; rw [hPB] at this; cases this
  have hgs := T.g.keeps hle
  obtain ⟨bm, ob, b1, b2, b3, b4, b5, b6⟩ := T.bmain
  have hbP : bm ≠ P := fun q => by rw [q, hP0] at b3; cases b3
  have hbG : bm ≠ mainGlobals := fun q => by
    obtain ⟨o, es, ep, e, hd, _⟩ := T.g
    rw [q, e] at b3; cases b3; rw [hd] at b6; cases b6
  refine makeFunction_hit (mg := mg) (ps := #[rawInt pos.line, rawInt pos.col, .ref c']) (cv := .ref c') hcl hge hgs hcode (M.code.keeps hle) hP trivial (by simp [codeAmong, rawInt]) ⟨bm, ob, b1, b2, hbG, hbP, hle _ _ b3, b4, b5, b6⟩ fun ctv doc h' tk hk hsz => ?_
  refine k h'.objs.size ctv doc ((mg "__name__").getD .none) _ tk ?_
  exact (H.keeps hk).new (fresh_none _) (fun b o e => Heap.get?_push_of_some _ e) ⟨_, Heap.get?_push_size _ rfl, rfl⟩

/-- def inner(..): the name is a cell -/
theorem X1.def {st : TabSt} {qual : Str} {name : Str} {params : Arguments} {body : List Stmt} {scope : Scope} {c P : Addr} {pos : Pos} {clos : List (Str × Addr)} {pre rest : Led} {ic : Addr}
    (M : MkOk h₀ c P) (hq : qualnameIn env name name = qual) (hl : led = pre ++ (tabE P pos st ++ rest)) (hg : TabGood qual st) (hk : env.scope.kind = .function) (hx : env.kindOf name = some .cell) (hic : env.cells.lookup name = some ic)
    (hcl : closureFor scope env = Pure.pure clos) (hge : env.globals = mainGlobals) (hcode : env.code = .ref c) (hd0 : params.defaults = []) (hk0 : params.kw_defaults = []) (ha : annTrees params none env = [])
    (h : ∀ f c' oc fo, (∃ ctv doc pm, fo = fnMade name qual params body scope clos doc pm c' ctv) → TabGood qual (some (c', oc)) → ∃ pre', SetC pre ic (.obj f) pre' ∧ Qn m ((f, .prd (· = fo)) :: (pre' ++ (tabE P pos (some (c', oc)) ++ rest)))) :
    X1 prog w h₀ A env m led (.FunctionDef name params body [] none [] scope none name pos) Qn Qr := fun B s K H k => by
  subst hq
  refine nestDef_K hd0 hk0 ha ?_
  subst hl
  have fin : ∀ f c' oc ctv doc pm h' tk, TabGood (qualnameIn env name name) (some (c', oc)) →
      Hp h₀ B h' ((f, .prd (· = fnMade name (qualnameIn env name name) params body scope clos doc pm c' ctv)) :: (tabE P pos (some (c', oc)) ++ ((env.locals, .ns m) :: (pre ++ rest)))) →
      wpAny (model prog w) A (storeName env name (.ref f)) (fun _ s'' => K .next s'') NoE { s with heap := h', toks := tk } := by
    intro f c' oc ctv doc pm h' tk hgd H1
    obtain ⟨pre', hs, q⟩ := h f c' oc _ ⟨ctv, doc, pm, rfl⟩ hgd
    obtain ⟨o, p1, p2, rfl, rfl⟩ := hs.split
    have perm : ∀ (x : Addr × LC) (N : Led) (p1 p2 : Led) (y : Addr × LC), (x :: (N ++ ((env.locals, LC.ns m) :: ((p1 ++ y :: p2) ++ rest)))).Perm (fled env m ((x :: p1) ++ y :: (p2 ++ (N ++ rest)))) := by
      intro x N p1 p2 y
      have e1 : (N ++ ((env.locals, LC.ns m) :: ((p1 ++ y :: p2) ++ rest))).Perm ((env.locals, LC.ns m) :: (N ++ ((p1 ++ y :: p2) ++ rest))) := List.perm_middle
      have e2 : (N ++ ((p1 ++ y :: p2) ++ rest)).Perm ((p1 ++ y :: p2) ++ (N ++ rest)) := by
        have := (List.perm_append_comm (l₁ := N) (l₂ := p1 ++ y :: p2)).append_right rest
        simpa [List.append_assoc] using this
      refine ((e1.trans (e2.cons _)).cons x).trans ?_
      have e3 : (x :: (env.locals, LC.ns m) :: ((p1 ++ y :: p2) ++ (N ++ rest))).Perm ((env.locals, LC.ns m) :: x :: ((p1 ++ y :: p2) ++ (N ++ rest))) := List.Perm.swap _ _ _
      refine e3.trans ?_
      simp only [fled, List.cons_append, List.append_assoc]
      exact List.Perm.refl _
    refine store_cell (pre := (f, .prd (· = fnMade name (qualnameIn env name name) params body scope clos doc pm c' ctv)) :: p1) (post := p2 ++ (tabE P pos (some (c', oc)) ++ rest)) hk hx hic (s := { s with heap := h', toks := tk }) (H1.perm (perm _ _ _ _ _)) (y := .obj f) .obj fun h2 tk2 H2 => ?_
    refine k B h2 tk2 _ .next (Le.refl _) H2 ⟨m, _, rfl, ?_⟩
    simpa using q
  have H' : Hp h₀ B s.heap (tabE P pos st ++ ((env.locals, .ns m) :: (pre ++ rest))) := by
    refine H.perm ?_
    have e1 : ((env.locals, LC.ns m) :: (pre ++ (tabE P pos st ++ rest))).Perm ((env.locals, LC.ns m) :: (tabE P pos st ++ (pre ++ rest))) := by
      refine List.Perm.cons _ ?_
      rw [← List.append_assoc, ← List.append_assoc]; exact List.perm_append_comm.append_right rest
    exact e1.trans List.perm_middle.symm
  cases st with
  | none => exact mkMiss M hcl hge hcode H' fun f c' oc ctv doc pm h' tk hgd H1 => fin f c' oc ctv doc pm h' tk hgd H1
  | some q =>
    obtain ⟨c', oc⟩ := q
    exact mkHit M hcl hge hcode H' fun f ctv doc pm h' tk H1 => fin f c' oc ctv doc pm h' tk hg H1

/-! ### a ledger with one list that turns -/
structure IL (a : Addr) (E : List (Addr × LC)) (LL : List MV → Led) : Prop where
  mem : ∀ e ∈ E, ∀ ys, e ∈ LL ys
  set : ∀ xs ys, SetL (LL xs) a xs ys (LL ys)
theorem IL.cons {a : Addr} {E : List (Addr × LC)} {LL : List MV → Led} (h : IL a E LL) (p : Addr × LC) : IL a E (fun ys => p :: LL ys) :=
  ⟨fun e he ys => .tail _ (h.mem e he ys), fun xs ys => .tail (h.set xs ys)⟩
theorem codeOfT {qual : Str} {c' : Addr} {oc : Obj} (hg : TabGood qual (some (c', oc))) (hm : (c', LC.prd (· = oc)) ∈ led) : CodeAt h₀ led (.ref c') qual := by
  obtain ⟨vs, t, hd, hv⟩ := hg
  exact .inr ⟨c', oc, vs, t, rfl, hm, hd, hv⟩
theorem T1.lst {e : Expr} (h : E1 prog w h₀ A env m led e (fun l x => ∃ xs, x = .lst xs ∧ xs.length ≤ 2 ^ 20 ∧ QT l (decide (xs ≠ []))))
    (he : isTrue e env (eval e env) = (do let v ← eval e env; standAt e.pos; holding [v] (truthy v)) := by rfl) : T1 prog w h₀ A env m led e QT := fun B s K H k => by
  refine isTrue_plain (E1.use h H fun B1 h1 tk1 a x led1 le1 H1 ra qX => ?_) he
  obtain ⟨xs, rfl, hz, q⟩ := qX
  cases ra with
  | lst e0 rs =>
    refine wpAny_truthy_list ⟨_, H1.keep _ _ e0, rfl, _, rfl⟩ (by rw [List.size_toArray, rs.length]; omega) ?_
    refine k B1 h1 _ _ _ le1 H1 ⟨led1, rfl, ?_⟩
    rename_i l0
    have : (!l0.toArray.isEmpty) = decide (xs ≠ []) := by
      have hl := rs.length
      rw [Bool.eq_iff_iff]
      cases xs <;> cases l0 <;> simp_all
    rw [this]; exact q

/-! ### the rules for the walk: what is read off the text is read by unfolding -/
theorem E1.cellA {x : Str} {y : MV} {pos} {c : Addr} (h : Q led y) (hk : env.scope.kind = .function := by with_unfolding_all rfl) (hl : env.kindOf x = some .cell := by with_unfolding_all rfl) (hc : env.cells.lookup x = some c := by with_unfolding_all rfl) (hm : (c, LC.cell (some y)) ∈ led := by repeat (first | exact memH | refine memT ?_)) (hd : (x == ("__debug__" : Str)) = false := by with_unfolding_all rfl) : E1 prog w h₀ A env m led (.Name x pos) Q := E1.cell hk hl hc hm h hd
theorem E1.globA {G Bn : Vars} {x : Str} {y : MV} {pos} (hG : Gd h₀ G Bn) (h : Q led y) (hk : env.scope.kind = .function := by with_unfolding_all rfl) (hl : env.kindOf x = some .globalImplicit := by with_unfolding_all rfl) (hg : env.globals = mainGlobals := by with_unfolding_all rfl) (hv : G.lookup x = some y := by with_unfolding_all rfl) (hd : (x == ("__debug__" : Str)) = false := by with_unfolding_all rfl) : E1 prog w h₀ A env m led (.Name x pos) Q := E1.glob hG hk hl hg hv h hd
theorem E1.bltA {G Bn : Vars} {x : Str} {y : MV} {pos} (hG : Gd h₀ G Bn) (h : Q led y) (hk : env.scope.kind = .function := by with_unfolding_all rfl) (hl : env.kindOf x = some .globalImplicit := by with_unfolding_all rfl) (hg : env.globals = mainGlobals := by with_unfolding_all rfl) (hb : env.builtins = builtinsNs := by with_unfolding_all rfl) (hv : Bn.lookup x = some y := by with_unfolding_all rfl) (hd : (x == ("__debug__" : Str)) = false := by with_unfolding_all rfl) : E1 prog w h₀ A env m led (.Name x pos) Q := E1.blt hG hk hl hg hb hv h hd
theorem X1.assignA {x : Str} {p' e pos} (h : E1 prog w h₀ A env m led e (fun l y => Qn ((x, y) :: m) l)) (hk : env.scope.kind = .function := by with_unfolding_all rfl) (hl : env.kindOf x = some .local := by with_unfolding_all rfl) (hs : swapsWith e (some (.Name x p')) pos.line env = Pure.pure false := by with_unfolding_all rfl) : X1 prog w h₀ A env m led (.Assign [.Name x p'] e pos) Qn Qr := X1.assign hk hl h hs
theorem X1.augA {x : Str} {p' : Pos} {op : Operator} {e pos} {y : MV} (h : E1 prog w h₀ A env m led e (fun l z => AugQ op y z (fun r => Qn ((x, r) :: m) l))) (hk : env.scope.kind = .function := by with_unfolding_all rfl) (hl : env.kindOf x = some .local := by with_unfolding_all rfl) (hv : m.lookup x = some y := by with_unfolding_all rfl) : X1 prog w h₀ A env m led (.AugAssign (.Name x p') op e pos) Qn Qr := X1.aug hk hl hv h
theorem T1.cmpA {l r : Expr} {op : CmpOp} {pos} (h : E1 prog w h₀ A env m led l (fun led1 x => E1 prog w h₀ A env m led1 r (fun led2 y => CmpQ op x y (fun z => TruQ z (QT led2))))) (hm : behindInMarks op r = false := by with_unfolding_all rfl) : T1 prog w h₀ A env m led (.Compare l [op] [r] pos) QT := T1.cmp h hm
theorem E1.cmpA {l r : Expr} {op : CmpOp} {pos} (h : E1 prog w h₀ A env m led l (fun led1 x => E1 prog w h₀ A env m led1 r (fun led2 y => CmpQ op x y (Q led2)))) (hm : behindInMarks op r = false := by with_unfolding_all rfl) : E1 prog w h₀ A env m led (.Compare l [op] [r] pos) Q := E1.cmp h hm
theorem E1.callA {x : Str} {np : Pos} {args : List Expr} {pos : Pos} (h : E1 prog w h₀ A env m led (.Name x np) (fun l f => Es prog w h₀ A env m l args (fun l' xs => Cl prog w h₀ A (fled env m l') f xs [] (Ret env m Q)))) (hs : starEach args env = args.map fun e => (false, eval e env) := by with_unfolding_all rfl) : E1 prog w h₀ A env m led (.Call (.Name x np) args [] pos) Q := E1.call h hs
theorem E1.sliceA {value : Expr} {lower upper : Option Expr} {p pos} (h : E1 prog w h₀ A env m led value (fun l x => BdQ env m prog w h₀ A l lower (fun l1 lo => BdQ env m prog w h₀ A l1 upper (fun l2 hi => SlQ l2 x lo hi Q)))) (ht : ∀ o r, letTemporaryGo value o r = Pure.pure () := by intro _ _; with_unfolding_all rfl) : E1 prog w h₀ A env m led (.Subscript value (.Slice lower upper Option.none p) pos) Q := E1.slice h
theorem E1.subA {value slice : Expr} {pos} (h : E1 prog w h₀ A env m led value (fun l x => E1 prog w h₀ A env m l slice (fun l' i => SubQ (fled env m l') x i (Q l')))) (hs : ∀ o i, subscripted slice false o i = operate [o, i] (getItem o i) := by intro _ _; with_unfolding_all rfl) : E1 prog w h₀ A env m led (.Subscript value slice pos) Q := E1.sub h hs
theorem T1.plainA {e : Expr} (h : E1 prog w h₀ A env m led e (fun l x => TruQ x (QT l))) (he : isTrue e env (eval e env) = (do let v ← eval e env; standAt e.pos; holding [v] (truthy v)) := by with_unfolding_all rfl) : T1 prog w h₀ A env m led e QT := T1.plain h he

/-! ### what is plain is worked out in one step -/
noncomputable def toI : MV → Option Int
  | .int a => some a
  | _ => none
noncomputable def toS : MV → Option Str
  | .str a => some a
  | _ => none
theorem toI_ {a : MV} {k : Int} (h : toI a = some k) : a = .int k := by cases a <;> cases h; rfl
theorem toS_ {a : MV} {k : Str} (h : toS a = some k) : a = .str k := by cases a <;> cases h; rfl
noncomputable def evBi (op : Operator) (a b : Int) : Option MV := match op with
  | .Add => some (.int (a + b))
  | .Sub => some (.int (a - b))
  | .BitAnd => some (.int (Builtin.bitAnd a b))
  | .BitOr => some (.int (Builtin.bitOr a b))
  | .BitXor => some (.int (Builtin.bitXor a b))
  | _ => none
noncomputable def evUi (op : UnaryOp) (a : Int) : Option MV := match op with
  | .USub => some (.int (-a))
  | .Invert => some (.int (Builtin.bitNot a))
  | _ => none
noncomputable def evAi (op : Operator) (a b : Int) : Option MV := match op with
  | .Add => some (.int (a + b))
  | .Sub => some (.int (a - b))
  | _ => none
noncomputable def evCi (op : CmpOp) (a b : Int) : Option Bool := match op with
  | .Eq => some (decide (a = b))
  | .NotEq => some (decide (a ≠ b))
  | .Lt => some (decide (a < b))
  | .LtE => some (decide (a ≤ b))
  | .Gt => some (decide (a > b))
  | .GtE => some (decide (a ≥ b))
  | _ => none
noncomputable def evCs (op : CmpOp) (a b : Str) : Option Bool := match op with
  | .Eq => some (decide (a = b))
  | .NotEq => some (decide (a ≠ b))
  | _ => none
noncomputable def evIs (op : CmpOp) (a : MV) : Option Bool := match op with
  | .Is => match a with
    | .none => some true
    | .obj _ => some false
    | .int _ => some false
    | _ => none
  | _ => none
noncomputable def evB (op : Operator) (a b : MV) : Option MV := (toI a).bind fun x => (toI b).bind fun y => evBi op x y
noncomputable def evU (op : UnaryOp) (a : MV) : Option MV := (toI a).bind fun x => evUi op x
noncomputable def evA (op : Operator) (a b : MV) : Option MV := (toI a).bind fun x => (toI b).bind fun y => evAi op x y
noncomputable def evC (op : CmpOp) (a b : MV) : Option Bool := match b with
  | .int y => (toI a).bind fun x => evCi op x y
  | .str y => (toS a).bind fun x => evCs op x y
  | .none => evIs op a
  | _ => none
noncomputable def evW : MV → Option Bool
  | .bool b => some b
  | .int a => some (decide (a ≠ 0))
  | .none => some false
  | _ => none
noncomputable def evK : Const → Option MV
  | .int k => some (.int k)
  | .str x => some (.str x)
  | .bool b => some (.bool b)
  | .none => some .none
  | _ => none
noncomputable def isLoc (env : Env) (x : Str) : Bool := (x == ("__debug__" : Str)).not.and ((decide (env.scope.kind = .function)).and (decide (env.kindOf x = some .local)))
noncomputable def evP : Nat → Env → Vars → Expr → Option MV
  | 0, _, _, _ => none
  | n + 1, env, m, e => match e with
    | .Constant c _ _ => evK c
    | .Name x _ => (isLoc env x).rec none (m.lookup x)
    | .BinOp l op r _ => (evP n env m l).bind fun a => (evP n env m r).bind fun b => evB op a b
    | .UnaryOp op e _ => (evP n env m e).bind fun a => evU op a
    | _ => none
noncomputable def evT (env : Env) (m : Vars) : Expr → Option Bool
  | .Compare l [op] [r] _ => (behindInMarks op r).rec ((evP 9 env m l).bind fun a => (evP 9 env m r).bind fun b => evC op a b) Option.none
  | _ => none
noncomputable def evL (env : Env) (m : Vars) : List Expr → Option (List MV)
  | [] => some []
  | e :: es => (evP 9 env m e).bind fun x => (evL env m es).bind fun xs => some (x :: xs)
section
variable {a b y : MV} {c : Bool} {P : MV → Prop} {PB : Bool → Prop}
theorem BinQ.ev {op : Operator} (h : P y) (hv : evB op a b = some y := by with_unfolding_all rfl) : BinQ op a b P := by
  obtain ⟨i, hi, hv⟩ := Option.bind_eq_some_iff.mp hv
  obtain ⟨j, hj, hv⟩ := Option.bind_eq_some_iff.mp hv
  cases toI_ hi; cases toI_ hj
  cases op <;> cases hv
  · exact .addI h
  · exact .subI h
  · exact .orI h
  · exact .xorI h
  · exact .andI h
theorem UnQ.ev {op : UnaryOp} (h : P y) (hv : evU op a = some y := by with_unfolding_all rfl) : UnQ op a P := by
  obtain ⟨i, hi, hv⟩ := Option.bind_eq_some_iff.mp hv
  cases toI_ hi
  cases op <;> cases hv
  · exact .inv h
  · exact .neg h
theorem AugQ.ev {op : Operator} (h : P y) (hv : evA op a b = some y := by with_unfolding_all rfl) : AugQ op a b P := by
  obtain ⟨i, hi, hv⟩ := Option.bind_eq_some_iff.mp hv
  obtain ⟨j, hj, hv⟩ := Option.bind_eq_some_iff.mp hv
  cases toI_ hi; cases toI_ hj
  cases op <;> cases hv
  · exact .addI h
  · exact .subI h
theorem TruQ.ev (h : PB c) (hv : evW a = some c := by with_unfolding_all rfl) : TruQ a PB := by
  cases a <;> cases hv
  · exact .n h
  · exact .bo h
  · exact .i h
theorem evIs_sound {op : CmpOp} (hv : evIs op a = some c) (h : P (.bool c)) : CmpQ op a .none P := by
  cases op <;> try cases hv
  cases a <;> cases hv
  · exact .isN h
  · exact .isI h
  · exact .isO h
theorem CmpQ.ev {op : CmpOp} (h : P (.bool c)) (hv : evC op a b = some c := by with_unfolding_all rfl) : CmpQ op a b P := by
  cases b <;> try cases hv
  · exact evIs_sound hv h
  · obtain ⟨i, hi, hv⟩ := Option.bind_eq_some_iff.mp hv
    cases toI_ hi
    cases op <;> cases hv
    · exact .eqI h
    · exact .neI h
    · exact .ltI h
    · exact .leI h
    · exact .gtI h
    · exact .geI h
  · obtain ⟨i, hi, hv⟩ := Option.bind_eq_some_iff.mp hv
    cases toS_ hi
    cases op <;> cases hv
    · exact .eqS h
    · exact .neS h
end
theorem E1.con {c : Const} {k pos} {y : MV} (hv : evK c = some y) (h : Q led y) : E1 prog w h₀ A env m led (.Constant c k pos) Q := by
  cases c <;> cases hv
  · exact .none h
  · exact .bool h
  · exact .int h
  · exact .str h
theorem E1.pureN : ∀ (n : Nat) {e : Expr} {y : MV} {Q : Led → MV → Prop}, evP n env m e = some y → Q led y → E1 prog w h₀ A env m led e Q := by
  intro n
  induction n with
  | zero => intro e y Q hv _; cases hv
  | succ n ih =>
    intro e y Q hv h
    cases e <;> try cases hv
    case BinOp l op r pos =>
      obtain ⟨a, ha, hv⟩ := Option.bind_eq_some_iff.mp (show Option.bind _ _ = some y from hv)
      obtain ⟨b, hb, hv⟩ := Option.bind_eq_some_iff.mp hv
      exact .bin (ih ha (ih hb (.ev h hv)))
    case UnaryOp op e pos =>
      obtain ⟨a, ha, hv⟩ := Option.bind_eq_some_iff.mp (show Option.bind _ _ = some y from hv)
      exact .un (ih ha (.ev h hv))
    case Constant c k pos => exact .con hv h
    case Name x pos =>
      have hv : (isLoc env x).rec Option.none (m.lookup x) = some y := hv
      cases hl : isLoc env x with
      | false => rw [hl] at hv; cases hv
      | true =>
        rw [hl] at hv
        unfold isLoc at hl
        simp only [Bool.and_eq_true, Bool.not_eq_true', decide_eq_true_eq] at hl
        exact .loc hl.2.1 hl.2.2 hv h hl.1
theorem E1.pureA {e : Expr} {y : MV} (h : Q led y) (hv : evP 9 env m e = some y := by with_unfolding_all rfl) : E1 prog w h₀ A env m led e Q := E1.pureN 9 hv h
theorem T1.pureC {l r : Expr} {op : CmpOp} {pos : Pos} {c : Bool} (h : QT led c) (hv : evT env m (.Compare l [op] [r] pos) = some c) : T1 prog w h₀ A env m led (.Compare l [op] [r] pos) QT := by
  have hv : (behindInMarks op r).rec ((evP 9 env m l).bind fun a => (evP 9 env m r).bind fun b => evC op a b) Option.none = some c := hv
  cases hm : behindInMarks op r with
  | true => rw [hm] at hv; cases hv
  | false =>
    rw [hm] at hv
    obtain ⟨a, ha, hv⟩ := Option.bind_eq_some_iff.mp hv
    obtain ⟨b, hb, hv⟩ := Option.bind_eq_some_iff.mp hv
    exact .cmp (E1.pureN 9 ha (E1.pureN 9 hb (.ev (.bo h) hv))) hm
theorem T1.pureA {l r : Expr} {op : CmpOp} {pos : Pos} {c : Bool} (h : QT led c) (hv : evT env m (.Compare l [op] [r] pos) = some c := by with_unfolding_all rfl) : T1 prog w h₀ A env m led (.Compare l [op] [r] pos) QT := T1.pureC h hv
theorem Es.pureA : ∀ {es : List Expr} {ys : List MV} {Q : Led → List MV → Prop} (_ : Q led ys) (_ : evL env m es = some ys := by with_unfolding_all rfl), Es prog w h₀ A env m led es Q
  | [], _, _, h, hv => by cases hv; exact .ni h
  | e :: es, ys, Q, h, hv => by
    obtain ⟨x, hx, hv⟩ := Option.bind_eq_some_iff.mp (show Option.bind _ _ = some ys from hv)
    obtain ⟨xs, hxs, hv⟩ := Option.bind_eq_some_iff.mp hv
    cases hv
    exact .co (E1.pureN 9 hx (Es.pureA h hxs))
end
end Yy

end

section
set_option maxRecDepth 100000
namespace Yy
open PySem PySem.W PySem.Calls PyProof.Rows

/-! ### the sort is stable: the tree of its questions, answered by numbers -/
noncomputable def Lx (k : Nat → Int) (x y : Nat) : Prop := k x < k y ∨ (k x = k y ∧ x < y)
noncomputable abbrev SL (k : Nat → Int) (l : List Nat) : Prop := l.Pairwise (Lx k)
theorem Lx.of_le {k : Nat → Int} {x y : Nat} (h : k x ≤ k y) (hxy : x < y) : Lx k x y := (Int.lt_or_eq_of_le h).imp id fun e => ⟨e, hxy⟩
theorem Lx.le {k : Nat → Int} {x y : Nat} (h : Lx k x y) : k x ≤ k y := h.elim Int.le_of_lt fun e => Int.le_of_eq e.1
noncomputable abbrev GL (k : Nat → Int) (l : List Nat) : Prop := l.Pairwise (fun x y => Lx k y x)

theorem rev_ix {a n t : Nat} (h : t < n) : a + (a + n) - 1 - (a + t) = a + (n - 1 - t) := by
  rw [Nat.sub_sub, Nat.sub_sub, Nat.add_left_comm 1 a t, Nat.add_sub_add_left, Nat.add_sub_assoc (by rw [Nat.add_comm]; exact h)]
theorem revL (p : Array Nat) (a b c : List Nat) (h : p.toList = a ++ b ++ c) : (kas_rev p a.length (a.length + b.length)).toList = a ++ b.reverse ++ c := by
  have hs : a.length + b.length ≤ p.size := by rw [← Array.length_toList, h, List.length_append, List.length_append]; exact Nat.le_add_right _ _
  apply List.ext_getElem?
  intro i
  rw [Array.getElem?_toList]
  show (mirror p a.length (a.length + b.length) ((a.length + b.length - a.length) / 2))[i]? = _
  rw [getElem?_mirror_all hs, ← Array.getElem?_toList, ← Array.getElem?_toList, h, List.append_assoc, List.append_assoc]
  rcases Nat.lt_or_ge i a.length with q | q
  · rw [if_neg fun z => Nat.not_le.mpr q z.1, List.getElem?_append_left q, List.getElem?_append_left q]
  · obtain ⟨t, rfl⟩ := Nat.exists_eq_add_of_le q
    rw [List.getElem?_append_right (Nat.le_add_right _ _), List.getElem?_append_right (Nat.le_add_right _ _), Nat.add_sub_cancel_left]
    rcases Nat.lt_or_ge t b.length with r | r
    · have r' : b.length - 1 - t < b.length := Nat.lt_of_le_of_lt (Nat.sub_le _ _) (Nat.sub_lt (Nat.lt_of_le_of_lt (Nat.zero_le _) r) Nat.zero_lt_one)
      rw [if_pos ⟨q, Nat.add_lt_add_left r _⟩, rev_ix r, List.getElem?_append_right (Nat.le_add_right _ _), Nat.add_sub_cancel_left, List.getElem?_append_left r',
        List.getElem?_append_left (by rw [List.length_reverse]; exact r), List.getElem?_reverse r]
    · rw [if_neg fun z => Nat.not_le.mpr (Nat.lt_of_add_lt_add_left z.2) r, List.getElem?_append_right r, List.getElem?_append_right (by rw [List.length_reverse]; exact r), List.length_reverse]
theorem swapL (q : Array Nat) (a r : List Nat) (x y : Nat) (h : q.toList = a ++ y :: x :: r) : (q.swapIfInBounds (a.length + 1) a.length).toList = a ++ x :: y :: r := by
  obtain ⟨l⟩ := q
  cases (show l = _ from h)
  have h0 : a.length < (a ++ y :: x :: r).toArray.size := by simp
  have h1 : a.length + 1 < (a ++ y :: x :: r).toArray.size := by simp
  unfold Array.swapIfInBounds
  rw [dif_pos h1, dif_pos h0]
  simp
theorem bubL : ∀ (b : List Nat) (p : Array Nat) (a c : List Nat) (x n : Nat), p.toList = a ++ b ++ x :: c → n = a.length + b.length → (bubble p n b.length).toList = a ++ x :: b ++ c
  | [], p, a, c, x, n, h, hn => by simpa [bubble] using h
  | y :: b, p, a, c, x, n, h, hn => by
    have ih := bubL b p (a ++ [y]) c x n (by rw [h]; simp) (by rw [hn, List.length_cons, List.length_append, List.length_singleton, Nat.add_assoc, Nat.add_comm 1])
    have e : n - b.length = a.length + 1 := by rw [hn, List.length_cons, ← Nat.add_assoc, Nat.add_right_comm, Nat.add_sub_cancel]
    rw [List.length_cons, bubble_succ, e, Nat.add_sub_cancel]
    rw [swapL _ a (b ++ c) x y (by rw [ih]; simp)]
    simp
theorem rng_pop {n N : Nat} (h : n < N) : List.range' n (N - n) = n :: List.range' (n + 1) (N - (n + 1)) := by
  have : N - n = N - (n + 1) + 1 := (Nat.sub_add_cancel (Nat.sub_pos_of_lt h)).symm
  rw [this, List.range'_succ]
theorem getL (p : Array Nat) (a c : List Nat) (x : Nat) (h : p.toList = a ++ x :: c) : p.getD a.length 0 = x := by
  have hs : a.length < p.size := by rw [← Array.length_toList, h]; simp
  have : p[a.length] = x := by
    rw [← Array.getElem_toList (h := by rw [Array.length_toList]; exact hs)]
    simp [h]
  simp [Array.getD, hs, this]
theorem getL' (p : Array Nat) (a c : List Nat) (x n : Nat) (h : p.toList = a ++ x :: c) (hn : n = a.length) : p.getD n 0 = x := by
  subst hn; exact getL p a c x h

section
variable {k : Nat → Int} {N : Nat} {cmp : Nat → Nat → (Bool → Shared → Prop) → Shared → Prop} {s : Shared}

/-- an ascending run goes on: what lies behind is untouched -/
theorem asc_ok (hc : ∀ i j C, i < N → j < N → C (decide (k i < k j)) s → cmp i j C s) {p : Array Nat} {Q : Nat → Shared → Prop} :
    ∀ (f n : Nat) (a : List Nat), p.toList = a ++ List.range' n (N - n) → a.length = n → 1 ≤ n → n + f = N → a.Perm (List.range n) → SL k a →
      (∀ n' a', p.toList = a' ++ List.range' n' (N - n') → a'.length = n' → n ≤ n' → n' ≤ N → a'.Perm (List.range n') → SL k a' →
        (∀ z r, a'.reverse = z :: r → n' < N → k n' < k z) → Q n' s) →
      (kas_asc p f n).kasWp cmp Q s
  | 0, n, a, hp, hl, h1, hf, hpm, hs, hq => hq n a hp hl (Nat.le_refl _) (by lia) hpm hs fun z r _ h => by lia
  | f + 1, n, a, hp, hl, h1, hf, hpm, hs, hq => by
    have hnN : n < N := by lia
    have e1 := rng_pop hnN
    obtain ⟨a0, z, rfl⟩ : ∃ a0 z, a = a0 ++ [z] := by
      rcases List.eq_nil_or_concat a with rfl | ⟨a0, z, rfl⟩
      · simp at hl; lia
      · exact ⟨a0, z, by simp⟩
    have hzn : z < n := by
      have := hpm.mem_iff (a := z)
      simp at this; exact this
    have hl0 : a0.length = n - 1 := by simp at hl; lia
    have g1 : p.getD n 0 = n := getL' p _ _ n n (by rw [hp, e1]) hl.symm
    have g2 : p.getD (n - 1) 0 = z := getL' p a0 (List.range' n (N - n)) z (n - 1) (by rw [hp]; simp) hl0.symm
    show cmp (p.getD n 0) (p.getD (n - 1) 0) _ s
    rw [g1, g2]
    refine hc n z _ hnN (by lia) ?_
    by_cases hk : k n < k z
    · rw [decide_eq_true hk]
      show ((if true = true then KasT.ret n else kas_asc p f (n + 1)) : KasT Nat).kasWp cmp Q s
      rw [if_pos rfl]
      refine hq n _ hp hl (Nat.le_refl _) (by lia) hpm hs fun z' r e _ => ?_
      rw [List.reverse_append, List.reverse_singleton, List.singleton_append] at e
      injection e with e _
      rw [← e]; exact hk
    · rw [decide_eq_false hk]
      show ((if false = true then KasT.ret n else kas_asc p f (n + 1)) : KasT Nat).kasWp cmp Q s
      rw [if_neg (by decide)]
      refine asc_ok hc f (n + 1) (a0 ++ [z] ++ [n]) (by rw [hp, e1]; simp) (by simp; lia) (by lia) (by lia) ?_ ?_ fun n' a' b1 b2 b3 => hq n' a' b1 b2 (by lia)
      · rw [List.range_succ]; exact hpm.append_right _
      · refine List.pairwise_append.mpr ⟨hs, List.pairwise_singleton _ _, fun x hx y hy => ?_⟩
        rw [List.mem_singleton.mp hy]
        have hxn : x < n := by simpa using (hpm.mem_iff (a := x)).mp hx
        have hxz : k x ≤ k z := by
          rcases List.mem_append.mp hx with hx | hx
          · have := (List.pairwise_append.mp hs).2.2 x hx z (by simp)
            exact this.le
          · rw [List.mem_singleton.mp hx]; exact Int.le_refl _
        exact Lx.of_le (Int.le_trans hxz (Int.not_lt.mp hk)) hxn

theorem gl_snoc {d b : List Nat} (hd : GL k d) (hb : SL k b) (h : ∀ x ∈ d, ∀ y ∈ b, k y < k x) : GL k (d ++ b.reverse) := by
  refine List.pairwise_append.mpr ⟨hd, List.pairwise_reverse.mpr hb, fun x hx y hy => .inl (h x hx y (List.mem_reverse.mp hy))⟩

/-- a descending run goes on: d is turned, b is the last block of equals, as it came -/
theorem desc_ok (hc : ∀ i j C, i < N → j < N → C (decide (k i < k j)) s → cmp i j C s) {Q : Array Nat × Nat × Nat → Shared → Prop} :
    ∀ (f : Nat) (p : Array Nat) (n q : Nat) (d b : List Nat), p.toList = d ++ b ++ List.range' n (N - n) → d.length + b.length = n → b.length = q + 1 → n + f = N → (d ++ b).Perm (List.range n) →
      GL k d → SL k b → (∀ x ∈ b, ∀ y ∈ b, k x = k y) → (∀ x ∈ d, ∀ y ∈ b, k y < k x) →
      (∀ p' n' q' d' b', p'.toList = d' ++ b' ++ List.range' n' (N - n') → d'.length + b'.length = n' → b'.length = q' + 1 → n' ≤ N → n ≤ n' → (d' ++ b').Perm (List.range n') → GL k d' → SL k b' → (∀ x ∈ d', ∀ y ∈ b', k y < k x) → Q (p', n', q') s) →
      (kas_desc f p n q).kasWp cmp Q s
  | 0, p, n, q, d, b, hp, hl, hb, hf, hpm, hd, hs, heq, hdb, hq => hq p n q d b hp hl hb (by lia) (Nat.le_refl _) hpm hd hs hdb
  | f + 1, p, n, q, d, b, hp, hl, hb, hf, hpm, hd, hs, heq, hdb, hq => by
    have hnN : n < N := by lia
    have e1 := rng_pop hnN
    obtain ⟨b0, z, rfl⟩ : ∃ b0 z, b = b0 ++ [z] := by
      rcases List.eq_nil_or_concat b with rfl | ⟨b0, z, rfl⟩
      · simp at hb
      · exact ⟨b0, z, by simp⟩
    have hlt : ∀ x ∈ d ++ (b0 ++ [z]), x < n := fun x hx => by simpa using (hpm.mem_iff (a := x)).mp hx
    have hzn : z < n := hlt z (by simp)
    have g1 : p.getD n 0 = n := getL' p _ _ n n (by rw [hp, e1]) (by simp at hl ⊢; lia)
    have g2 : p.getD (n - 1) 0 = z := getL' p (d ++ b0) (List.range' n (N - n)) z (n - 1) (by rw [hp]; simp) (by simp at hl ⊢; lia)
    show cmp (p.getD n 0) (p.getD (n - 1) 0) _ s
    rw [g1, g2]
    refine hc n z _ hnN (by lia) ?_
    by_cases hk : k n < k z
    · rw [decide_eq_true hk]
      show ((if true = true then (if q > 0 then kas_desc f (kas_rev p (n - (q + 1)) n) (n + 1) 0 else kas_desc f p (n + 1) 0) else KasT.ask (p.getD (n - 1) 0) (p.getD n 0) fun d => if d = true then KasT.ret (p, n, q) else kas_desc f p (n + 1) (q + 1)) : KasT _).kasWp cmp Q s
      rw [if_pos rfl]
      have hb0 : ∀ y ∈ b0 ++ [z], k n < k y := fun y hy => by rw [heq y hy z (by simp)]; exact hk
      have step : ∀ p' : Array Nat, p'.toList = (d ++ (b0 ++ [z]).reverse) ++ [n] ++ List.range' (n + 1) (N - (n + 1)) → (kas_desc f p' (n + 1) 0).kasWp cmp Q s := fun p' hp' => by
        refine desc_ok hc f p' (n + 1) 0 (d ++ (b0 ++ [z]).reverse) [n] hp' (by simp at hl ⊢; lia) rfl (by lia) ?_ (gl_snoc hd hs hdb) (List.pairwise_singleton _ _) (fun x hx y hy => by rw [List.mem_singleton.mp hx, List.mem_singleton.mp hy]) (fun x hx y hy => ?_) fun p2 n2 q2 d2 b2 c1 c2 c3 c4 c5 => hq p2 n2 q2 d2 b2 c1 c2 c3 c4 (by lia)
        · rw [List.range_succ]; exact (((List.Perm.append_left d (List.reverse_perm _)).trans hpm)).append_right _
        · rw [List.mem_singleton.mp hy]
          rcases List.mem_append.mp hx with hx | hx
          · exact Int.lt_trans hk (hdb x hx z (by simp))
          · exact hb0 x (List.mem_reverse.mp hx)
      by_cases hq0 : q > 0
      · rw [if_pos hq0]
        refine step _ ?_
        have := revL p d (b0 ++ [z]) (List.range' n (N - n)) hp
        have e2 : n - (q + 1) = d.length := by rw [← hl, hb, Nat.add_sub_cancel]
        have e3 : d.length + (b0 ++ [z]).length = n := hl
        rw [e3] at this
        rw [e2, this, e1]; simp
      · rw [if_neg hq0]
        refine step _ ?_
        have : b0 = [] := by
          have : b0.length = 0 := by simp at hb; lia
          exact List.length_eq_zero_iff.mp this
        subst this
        rw [hp, e1]; simp
    · rw [decide_eq_false hk]
      show cmp z n _ s
      refine hc z n _ (by lia) hnN ?_
      by_cases hk2 : k z < k n
      · rw [decide_eq_true hk2]
        show ((if true = true then KasT.ret (p, n, q) else kas_desc f p (n + 1) (q + 1)) : KasT _).kasWp cmp Q s
        rw [if_pos rfl]
        exact hq p n q d _ hp hl hb (by lia) (Nat.le_refl _) hpm hd hs hdb
      · rw [decide_eq_false hk2]
        show ((if false = true then KasT.ret (p, n, q) else kas_desc f p (n + 1) (q + 1)) : KasT _).kasWp cmp Q s
        rw [if_neg (by decide)]
        have hkz : k n = k z := Int.le_antisymm (Int.not_lt.mp hk2) (Int.not_lt.mp hk)
        refine desc_ok hc f p (n + 1) (q + 1) d (b0 ++ [z] ++ [n]) (by rw [hp, e1]; simp) (by simp at hl ⊢; lia) (by simp at hb ⊢; lia) (by lia) ?_ hd ?_ (fun x hx y hy => ?_) (fun x hx y hy => ?_) fun p2 n2 q2 d2 b2 c1 c2 c3 c4 c5 => hq p2 n2 q2 d2 b2 c1 c2 c3 c4 (by lia)
        · rw [List.range_succ, ← List.append_assoc]; exact hpm.append_right _
        · refine List.pairwise_append.mpr ⟨hs, List.pairwise_singleton _ _, fun x hx y hy => ?_⟩
          rw [List.mem_singleton.mp hy]
          have h1 := heq x hx z (by simp)
          have h2 := hlt x (List.mem_append_right _ hx)
          exact .inr ⟨h1.trans hkz.symm, h2⟩
        · have hall : ∀ x ∈ b0 ++ [z] ++ [n], k x = k z := fun x hx => by
            rcases List.mem_append.mp hx with hx | hx
            · exact heq x hx z (by simp)
            · rw [List.mem_singleton.mp hx]; exact hkz
          rw [hall x hx, hall y hy]
        · rcases List.mem_append.mp hy with hy | hy
          · exact hdb x hx y hy
          · rw [List.mem_singleton.mp hy, hkz]; exact hdb x hx z (by simp)

theorem tail_ok (hc : ∀ i j C, i < N → j < N → C (decide (k i < k j)) s → cmp i j C s) {Q : Nat × Array Nat → Shared → Prop} {p : Array Nat} {n : Nat} {d : List Nat}
    (hp : p.toList = d ++ List.range' n (N - n)) (hl : d.length = n) (h1 : 1 ≤ n) (hn : n ≤ N) (hpm : d.Perm (List.range n)) (hd : GL k d)
    (hq : ∀ p' n' a', p'.toList = a' ++ List.range' n' (N - n') → a'.length = n' → n ≤ n' → n' ≤ N → a'.Perm (List.range n') → SL k a' → Q (n', p') s) : (kas_tail3 n N p).kasWp cmp Q s := by
  unfold kas_tail3
  rw [KasT.kasWp_bind]
  have e := revL p [] d (List.range' n (N - n)) (by simpa using hp)
  simp only [List.length_nil, Nat.zero_add, List.nil_append, hl] at e
  refine asc_ok hc (N - n) n d.reverse (by rw [e]) (by simp [hl]) h1 (by lia) ((List.reverse_perm _).trans hpm) (List.pairwise_reverse.mpr hd) fun n' a' b1 b2 b3 b4 b5 b6 _ => ?_
  exact hq _ n' a' b1 b2 b3 b4 b5 b6

theorem descPart_ok (hc : ∀ i j C, i < N → j < N → C (decide (k i < k j)) s → cmp i j C s) {Q : Nat × Array Nat → Shared → Prop} {p : Array Nat} {n : Nat} {d : List Nat}
    (hp : p.toList = d ++ List.range' n (N - n)) (hl : d.length = n) (h1 : 1 ≤ n) (hn : n + 1 ≤ N) (hpm : d.Perm (List.range n)) (hd : GL k d) (hk : ∀ x ∈ d, k n < k x)
    (hq : ∀ p' n' a', p'.toList = a' ++ List.range' n' (N - n') → a'.length = n' → 1 ≤ n' → n' ≤ N → a'.Perm (List.range n') → SL k a' → Q (n', p') s) : (kas_descPart n N p).kasWp cmp Q s := by
  unfold kas_descPart
  rw [KasT.kasWp_bind]
  have e1 := rng_pop (show n < N from hn)
  refine desc_ok hc (N - (n + 1)) p (n + 1) 0 d [n] (by rw [hp, e1]; simp) (by simp; lia) rfl (Nat.add_sub_of_le hn) (by rw [List.range_succ]; exact hpm.append_right _) hd (List.pairwise_singleton _ _)
    (fun x hx y hy => by rw [List.mem_singleton.mp hx, List.mem_singleton.mp hy]) (fun x hx y hy => by rw [List.mem_singleton.mp hy]; exact hk x hx) fun p' n' q' d' b' c1 c2 c3 c4 c5 c6 c7 c8 c9 => ?_
  show ((if q' > 0 then kas_tail3 n' N (kas_rev p' (n' - (q' + 1)) n') else kas_tail3 n' N p') : KasT _).kasWp cmp Q s
  have fin : ∀ p2 : Array Nat, p2.toList = (d' ++ b'.reverse) ++ List.range' n' (N - n') → (kas_tail3 n' N p2).kasWp cmp Q s := fun p2 h2 =>
    tail_ok hc h2 (by simp; lia) (by lia) c4 ((List.Perm.append_left d' (List.reverse_perm _)).trans c6) (gl_snoc c7 c8 c9) fun p3 n3 a3 f1 f2 f3 f4 f5 f6 => hq p3 n3 a3 f1 f2 (by lia) f4 f5 f6
  by_cases hq0 : q' > 0
  · rw [if_pos hq0]
    refine fin _ ?_
    have := revL p' d' b' (List.range' n' (N - n')) c1
    have e2 : n' - (q' + 1) = d'.length := by rw [← c2, c3, Nat.add_sub_cancel]
    rw [c2] at this
    rw [e2, this]
  · rw [if_neg hq0]
    refine fin _ ?_
    obtain ⟨x, rfl⟩ : ∃ x, b' = [x] := by
      match b', c3 with
      | [], h => simp at h
      | [x], _ => exact ⟨x, rfl⟩
      | _ :: _ :: _, h => simp at h; lia
    rw [c1]; rfl

theorem count_ok (hc : ∀ i j C, i < N → j < N → C (decide (k i < k j)) s → cmp i j C s) {Q : Nat × Array Nat → Shared → Prop} (hN : 1 ≤ N)
    (hq : ∀ p' n' a', p'.toList = a' ++ List.range' n' (N - n') → a'.length = n' → 1 ≤ n' → n' ≤ N → a'.Perm (List.range n') → SL k a' → Q (n', p') s) : (kas_count N (List.toArray (List.range N))).kasWp cmp Q s := by
  unfold kas_count
  rw [KasT.kasWp_bind]
  have hr : List.range N = [0] ++ List.range' 1 (N - 1) := by
    obtain ⟨m, rfl⟩ : ∃ m, N = m + 1 := ⟨N - 1, (Nat.sub_add_cancel hN).symm⟩
    rw [List.range_eq_range', List.range'_succ]; rfl
  refine asc_ok hc (N - 1) 1 [0] (by rw [← hr]) rfl (Nat.le_refl _) (by lia) (List.Perm.refl _) (List.pairwise_singleton _ _) fun n a c1 c2 c3 c4 c5 c6 c7 => ?_
  show ((if (n == N) = true then KasT.ret (n, List.toArray (List.range N)) else if n > 1 then KasT.ask ((List.toArray (List.range N)).getD 0 0) ((List.toArray (List.range N)).getD (n - 1) 0) fun c => if c = true then KasT.ret (n, List.toArray (List.range N)) else kas_descPart n N (kas_rev (List.toArray (List.range N)) 0 n)
    else kas_descPart n N (List.toArray (List.range N))) : KasT _).kasWp cmp Q s
  have ha : a = List.range n := by
    have h1 : List.range N = a ++ List.range' n (N - n) := c1
    have h2 : List.range N = List.range n ++ List.range' n (N - n) := by
      rw [List.range_eq_range', List.range_eq_range']
      have : N = n + (N - n) := (Nat.add_sub_of_le c4).symm
      conv => lhs; rw [this, ← List.range'_append_1]
      simp
    rw [h2] at h1
    exact (List.append_cancel_right h1).symm
  split
  · rename_i e
    exact hq _ n a c1 c2 c3 c4 c5 c6
  · rename_i e
    have hlt : n < N := by
      have : n ≠ N := fun q => e (by rw [q]; exact beq_self_eq_true _)
      lia
    have hkz : k n < k (n - 1) := by
      refine c7 (n - 1) (List.range (n - 1)).reverse ?_ hlt
      rw [ha]
      obtain ⟨m, rfl⟩ : ∃ m, n = m + 1 := ⟨n - 1, (Nat.sub_add_cancel c3).symm⟩
      rw [List.range_succ]; simp
    split
    · rename_i h1
      have g0 : (List.toArray (List.range N)).getD 0 0 = 0 := by simp [Array.getD]
      have gn : (List.toArray (List.range N)).getD (n - 1) 0 = n - 1 := by
        have : n - 1 < N := by lia
        simp [Array.getD, this]
      show cmp ((List.toArray (List.range N)).getD 0 0) ((List.toArray (List.range N)).getD (n - 1) 0) _ s
      rw [g0, gn]
      refine hc 0 (n - 1) _ (by lia) (by lia) ?_
      by_cases hk : k 0 < k (n - 1)
      · rw [decide_eq_true hk]
        show ((if true = true then KasT.ret (n, List.toArray (List.range N)) else kas_descPart n N (kas_rev (List.toArray (List.range N)) 0 n)) : KasT _).kasWp cmp Q s
        rw [if_pos rfl]
        exact hq _ n a c1 c2 c3 c4 c5 c6
      · rw [decide_eq_false hk]
        show ((if false = true then KasT.ret (n, List.toArray (List.range N)) else kas_descPart n N (kas_rev (List.toArray (List.range N)) 0 n)) : KasT _).kasWp cmp Q s
        rw [if_neg (by decide)]
        have er := revL (List.toArray (List.range N)) [] a (List.range' n (N - n)) (by simpa using c1)
        simp only [List.length_nil, Nat.zero_add, List.nil_append, c2] at er
        -- all keys of the run are one
        have hle : ∀ i j, i ≤ j → j < n → k i ≤ k j := fun i j hij hj => by
          rcases Nat.lt_or_ge i j with h | h
          · rw [ha] at c6
            have := List.pairwise_iff_getElem.mp c6 i j (by simp; lia) (by simpa using hj) h
            simp at this
            exact this.le
          · rw [Nat.le_antisymm hij h]; exact Int.le_refl _
        have hall : ∀ i, i < n → k i = k (n - 1) := fun i hi => by
          have h1 := hle 0 i (Nat.zero_le _) hi
          have h2 := hle i (n - 1) (Nat.le_sub_one_of_lt hi) (Nat.sub_lt c3 Nat.zero_lt_one)
          exact Int.le_antisymm h2 (Int.le_trans (Int.not_lt.mp hk) h1)
        refine descPart_ok hc er (by simp [c2]) c3 (by lia) ((List.reverse_perm _).trans c5) ?_ (fun x hx => ?_) hq
        · show List.Pairwise (fun x y => Lx k y x) a.reverse
          rw [List.pairwise_reverse]; exact c6
        · have : x < n := by rw [ha] at hx; simpa using hx
          rw [hall x this]; exact hkz
    · rename_i h1
      have hn1 : n = 1 := by lia
      subst hn1
      refine descPart_ok (d := a) hc c1 c2 (Nat.le_refl _) (by lia) c5 ?_ (fun x hx => ?_) hq
      · rw [ha]; exact List.pairwise_singleton _ _
      · rw [ha] at hx
        have : x = 0 := by simpa using hx
        rw [this]; exact hkz

/-- where the next one goes -/
theorem place_ok (hc : ∀ i j C, i < N → j < N → C (decide (k i < k j)) s → cmp i j C s) {Q : Nat → Shared → Prop} {p : Array Nat} {n : Nat} {a : List Nat}
    (hp : p.toList = a ++ List.range' n (N - n)) (hl : a.length = n) (hn : n < N) (hpm : a.Perm (List.range n)) (hs : SL k a) :
    ∀ (f l r : Nat), l ≤ r → r ≤ n → r - l ≤ f → (∀ i x, i < l → a[i]? = some x → k x ≤ k n) → (∀ i x, r ≤ i → a[i]? = some x → k n < k x) →
      (∀ l, l ≤ n → (∀ i x, i < l → a[i]? = some x → k x ≤ k n) → (∀ i x, l ≤ i → a[i]? = some x → k n < k x) → Q l s) → (kas_place p n f l r).kasWp cmp Q s
  | 0, l, r, hlr, hr, hf, h1, h2, hq => by
    have : r = l := Nat.le_antisymm (Nat.sub_eq_zero_iff_le.mp (Nat.le_zero.mp hf)) hlr
    subst this
    exact hq r hr h1 h2
  | f + 1, l, r, hlr, hr, hf, h1, h2, hq => by
    show ((if l ≥ r then KasT.ret l else KasT.ask (p.getD n 0) (p.getD ((l + r) / 2) 0) fun c => if c = true then kas_place p n f l ((l + r) / 2) else kas_place p n f ((l + r) / 2 + 1) r) : KasT _).kasWp cmp Q s
    split
    · rename_i hge
      have : r = l := Nat.le_antisymm hge hlr
      subst this
      exact hq r hr h1 h2
    · rename_i hge
      have e1 := rng_pop hn
      have g1 : p.getD n 0 = n := getL' p _ _ n n (by rw [hp, e1]) hl.symm
      have hlr' : l < r := Nat.not_le.mp hge
      have hlm : l ≤ (l + r) / 2 ∧ (l + r) / 2 < r := ⟨(Nat.le_div_iff_mul_le (by decide)).mpr (by rw [Nat.mul_two]; exact Nat.add_le_add_left (Nat.le_of_lt hlr') l), Nat.div_lt_of_lt_mul (by rw [Nat.two_mul]; exact Nat.add_lt_add_right hlr' r)⟩
      revert hlm
      refine gen ((l + r) / 2) fun md => ?_
      intro hlm
      have hm : md < a.length := by rw [hl]; exact Nat.lt_of_lt_of_le hlm.2 hr
      have g2 : p.getD md 0 = a[md] := by
        refine getL' p (a.take (md)) (a.drop (md + 1) ++ List.range' n (N - n)) _ _ ?_ (by rw [List.length_take, Nat.min_eq_left (Nat.le_of_lt hm)])
        rw [hp, ← List.cons_append, ← List.append_assoc, ← List.drop_eq_getElem_cons hm, List.take_append_drop]
      have hx : a[md] < n := by
        have := hpm.mem_iff (a := a[md])
        simp at this; exact this
      show cmp (p.getD n 0) (p.getD (md) 0) _ s
      rw [g1, g2]
      refine hc n _ _ hn (Nat.lt_trans hx hn) ?_
      have mono : ∀ i j x y, i ≤ j → a[i]? = some x → a[j]? = some y → k x ≤ k y := fun i j x y hij hx hy => by
        obtain ⟨hi, rfl⟩ := List.getElem?_eq_some_iff.mp hx
        obtain ⟨hj, rfl⟩ := List.getElem?_eq_some_iff.mp hy
        rcases Nat.eq_or_lt_of_le hij with h | h
        · subst h; exact Int.le_refl _
        · have := List.pairwise_iff_getElem.mp hs i j hi hj h
          exact this.le
      by_cases hk : k n < k a[md]
      · rw [decide_eq_true hk]
        show ((if true = true then kas_place p n f l (md) else kas_place p n f (md + 1) r) : KasT _).kasWp cmp Q s
        rw [if_pos rfl]
        refine place_ok hc hp hl hn hpm hs f l _ hlm.1 (Nat.le_trans (Nat.le_of_lt hlm.2) hr) (Nat.le_of_lt_succ (Nat.lt_of_lt_of_le (Nat.sub_lt_sub_right hlm.1 hlm.2) hf)) h1 (fun i x hi hx => ?_) hq
        exact Int.lt_of_lt_of_le hk (mono _ _ _ _ hi (List.getElem?_eq_getElem hm) hx)
      · rw [decide_eq_false hk]
        show ((if false = true then kas_place p n f l (md) else kas_place p n f (md + 1) r) : KasT _).kasWp cmp Q s
        rw [if_neg (by decide)]
        refine place_ok hc hp hl hn hpm hs f _ r hlm.2 hr (Nat.le_of_lt_succ (Nat.lt_of_lt_of_le (Nat.sub_lt_sub_left (Nat.lt_of_le_of_lt hlm.1 hlm.2) (Nat.lt_succ_of_le hlm.1)) hf)) (fun i x hi hx => ?_) h2 hq
        exact Int.le_trans (mono _ _ _ _ (Nat.le_of_lt_succ hi) hx (List.getElem?_eq_getElem hm)) (Int.not_lt.mp hk)

theorem bin_ok (hc : ∀ i j C, i < N → j < N → C (decide (k i < k j)) s → cmp i j C s) {Q : Array Nat → Shared → Prop} :
    ∀ (f : Nat) (p : Array Nat) (n : Nat) (a : List Nat), p.toList = a ++ List.range' n (N - n) → a.length = n → n + f = N → a.Perm (List.range n) → SL k a →
      (∀ p' : Array Nat, p'.toList.Perm (List.range N) → SL k p'.toList → Q p' s) → (kas_bin f p n).kasWp cmp Q s
  | 0, p, n, a, hp, hl, hf, hpm, hs, hq => by
    have : n = N := hf
    subst this
    simp at hp
    exact hq p (by rw [hp]; exact hpm) (by rw [hp]; exact hs)
  | f + 1, p, n, a, hp, hl, hf, hpm, hs, hq => by
    show ((kas_place p n n 0 n).bind fun l => kas_bin f (bubble p n (n - l)) (n + 1)).kasWp cmp Q s
    rw [KasT.kasWp_bind]
    have hnN : n < N := hf ▸ Nat.lt_add_of_pos_right (Nat.succ_pos f)
    refine place_ok hc hp hl hnN hpm hs n 0 n (Nat.zero_le _) (Nat.le_refl _) (Nat.le_refl _) (fun i x hi => absurd hi (Nat.not_lt_zero i)) (fun i x hi hx => absurd (hl ▸ (List.getElem?_eq_some_iff.mp hx).1) (Nat.not_lt.mpr hi)) fun l hln h1 h2 => ?_
    have e1 := rng_pop hnN
    have hp2 : p.toList = a.take l ++ a.drop l ++ n :: List.range' (n + 1) (N - (n + 1)) := by rw [List.take_append_drop, hp, e1]
    have el : n = (a.take l).length + (a.drop l).length := by rw [← List.length_append, List.take_append_drop, hl]
    have eb := bubL (a.drop l) p (a.take l) _ n n hp2 el
    have el2 : (a.drop l).length = n - l := by rw [List.length_drop, hl]
    rw [el2] at eb
    have hlt : ∀ x ∈ a, x < n := fun x hx => by simpa using (hpm.mem_iff (a := x)).mp hx
    refine bin_ok hc f _ (n + 1) (a.take l ++ n :: a.drop l) (by rw [eb]) (by rw [List.length_append, List.length_cons, ← Nat.add_assoc, ← el]) (by rw [Nat.add_right_comm]; exact hf) ?_ ?_ hq
    · rw [List.range_succ]
      refine List.perm_middle.trans ?_
      rw [List.take_append_drop]
      exact (hpm.cons n).trans (List.perm_append_comm (l₁ := [n]))
    · have hs' : SL k (a.take l ++ a.drop l) := by rw [List.take_append_drop]; exact hs
      obtain ⟨s1, s2, s3⟩ := List.pairwise_append.mp hs'
      refine List.pairwise_append.mpr ⟨s1, List.pairwise_cons.mpr ⟨fun x hx => ?_, s2⟩, fun x hx y hy => ?_⟩
      · obtain ⟨i, hi, rfl⟩ := List.mem_iff_getElem.mp hx
        rw [List.getElem_drop]
        exact .inl (h2 (l + i) _ (Nat.le_add_right l i) (List.getElem?_eq_getElem _))
      · rcases List.mem_cons.mp hy with rfl | hy
        · obtain ⟨i, hi, rfl⟩ := List.mem_iff_getElem.mp hx
          rw [List.length_take] at hi
          rw [List.getElem_take]
          have hi2 : i < a.length := Nat.lt_of_lt_of_le hi (Nat.min_le_right _ _)
          have q1 := h1 i _ (Nat.lt_of_lt_of_le hi (Nat.min_le_left _ _)) (List.getElem?_eq_getElem hi2)
          have q2 := hlt _ (List.getElem_mem hi2)
          exact Lx.of_le q1 q2
        · exact s3 x hx y hy

theorem kas_stable (hc : ∀ i j C, i < N → j < N → C (decide (k i < k j)) s → cmp i j C s) {Q : Array Nat → Shared → Prop} (hN : 1 ≤ N)
    (hq : ∀ p' : Array Nat, p'.toList.Perm (List.range N) → SL k p'.toList → Q p' s) : (kas_sort N).kasWp cmp Q s := by
  unfold kas_sort
  rw [KasT.kasWp_bind]
  refine count_ok hc hN fun p n a c1 c2 c3 c4 c5 c6 => ?_
  show ((if n < N then kas_bin (N - max n 1) p (max n 1) else KasT.ret p) : KasT _).kasWp cmp Q s
  have : max n 1 = n := Nat.max_eq_left c3
  rw [this]
  split
  · exact bin_ok hc _ p n a c1 c2 (Nat.add_sub_of_le c4) c5 c6 hq
  · rename_i z
    have : n = N := Nat.le_antisymm c4 (Nat.not_lt.mp z)
    subst this
    simp at c1
    exact hq p (by rw [c1]; exact c5) (by rw [c1]; exact c6)
end
end Yy

end

section
set_option maxRecDepth 100000
namespace Yy
open PySem PySem.W PySem.Calls PyProof.Rows

/-! ### sorted(list, key=f) -/
noncomputable def IsStable (xs : List MV) (kz : List Int) (ys : List MV) : Prop := ∃ p : List Nat, p.Perm (List.range xs.length) ∧ SL (fun i => kz.getD i 0) p ∧ ys = p.map fun i => xs.getD i .none

theorem VRs.intsAre {B : Fz} {l : List Value} {ns : List Int} (r : VRs B l (mi ns)) : IntsAre l ns := by
  induction ns generalizing l with
  | nil => obtain rfl := r.nil_; exact .nil
  | cons n ns ih =>
    obtain ⟨v, vs, rfl, r, rs⟩ := VRs.cons_ r
    obtain ⟨t, rfl⟩ := r.int_
    exact .cons _ _ (ih rs)
theorem VRs.getD {B : Fz} {vs : List Value} {xs : List MV} (r : VRs B vs xs) (i : Nat) : VR B (vs.getD i .none) (xs.getD i .none) := by
  rw [List.getD_eq_getElem?_getD, List.getD_eq_getElem?_getD]
  cases e : xs[i]? with
  | none =>
    have : vs[i]? = none := by
      rw [List.getElem?_eq_none_iff] at e ⊢; rw [r.length]; exact e
    rw [this]; exact .none
  | some x =>
    obtain ⟨v, e', q⟩ := r.get e
    rw [e']; exact q
theorem VRs.picks {B : Fz} {vs : List Value} {xs : List MV} (r : VRs B vs xs) : ∀ p : List Nat, VRs B (p.map fun i => vs.getD i .none) (p.map fun i => xs.getD i .none)
  | [] => .nil
  | i :: p => .cons (r.getD i) (VRs.picks r p)

section
variable {prog : Program} {w : World} {h₀ : Heap}
variable {A : Around} {env : Env} {m : Vars} {led : Led} {Q : Led → MV → Prop}


theorem b_sortK {q : Addr} {xs : List MV} {kz : List Int} {n : Str} (hn : n = Str.ofString "key") (hlen : kz.length = xs.length) (h2 : 2 ≤ xs.length) (h64 : xs.length < 64) (hq : IsFn h₀ (fled env m led) (.obj q))
    (hf : ∀ (i : Nat) x k, xs[i]? = some x → kz[i]? = some k → ∀ led', Cl prog w h₀ A.in1.in1 led' (.obj q) [x] [] (fun l v => l = led' ∧ v = .int k))
    (h : ∀ ys, IsStable xs kz ys → NewL led ys Q) : Cl prog w h₀ A (fled env m led) (.bi "sorted") [.lst xs] [(n, .obj q)] (Ret env m Q) := by
  subst hn
  refine ⟨trivial, fun B fv vs ks rf rs rk s K H k => ?_⟩
  obtain rfl := rf.bi_
  obtain ⟨_, rfl, r⟩ := rs.one_
  obtain ⟨_, rfl, rq⟩ := rk.one_
  obtain rfl := rq.obj_
  obtain ⟨l, n0, vs, rfl, e0, r0⟩ := r.lst_
  have hvl : vs.length = xs.length := r0.length
  have sz : sizeLine = 2 ^ 24 := rfl
  refine call_function_entry_kw kind_sorted plain_sorted entry_sorted (ksk_s1 _ _) ?_
  unfold Builtin.«sorted»
  refine wpAny_bind (m := checkCount "sorted" 1 1 _) (wpAny_pure ?_)
  refine wpAny_bind (collect_list (vs := vs) ⟨_, H.keep _ _ e0, rfl, _, rfl⟩ ?_ (by lia))
  refine wpAny_bind (wpAny_newList ?_ (by lia))
  have hsz : ((s.heap.push (seqObj "list" #[] 0)).update s.heap.objs.size (Obj.mapSeq (· ++ vs.toArray))).objs.size = s.heap.objs.size + 1 := by
    rw [Heap.size_update, Heap.size_push]
  have hoL : (((s.heap.push (seqObj "list" #[] 0)).update s.heap.objs.size (Obj.mapSeq (· ++ vs.toArray))).push (seqObj "list" vs.toArray 0)).get? (s.heap.objs.size + 1) = some (seqObj "list" vs.toArray 0) := by
    rw [← hsz]; exact Heap.get?_push_size _ rfl
  have keep : ∀ b o, s.heap.get? b = some o → (((s.heap.push (seqObj "list" #[] 0)).update s.heap.objs.size (Obj.mapSeq (· ++ vs.toArray))).push (seqObj "list" vs.toArray 0)).get? b = some o := fun b o q => by
    have hlt : b < s.heap.objs.size := Heap.lt_size q
    rw [Heap.get?_push_ne _ _ _ (by rw [hsz]; exact Nat.ne_of_lt (Nat.lt_succ_of_lt hlt)), Heap.get?_update_ne _ _ _ _ (Nat.ne_of_lt hlt), Heap.get?_push_ne _ _ _ (Nat.ne_of_lt hlt)]
    exact q
  have hsz2 : (((s.heap.push (seqObj "list" #[] 0)).update s.heap.objs.size (Obj.mapSeq (· ++ vs.toArray))).push (seqObj "list" vs.toArray 0)).objs.size = s.heap.objs.size + 2 := by rw [Heap.size_push, hsz]
  show wpAny _ _ _ _ _ { s with heap := ((s.heap.push (seqObj "list" #[] 0)).update s.heap.objs.size (Obj.mapSeq (· ++ vs.toArray))).push (seqObj "list" vs.toArray 0) }
  rw [hsz]
  revert hsz2
  revert keep
  revert hoL
  refine gen (((s.heap.push (seqObj "list" #[] 0)).update s.heap.objs.size (Obj.mapSeq (· ++ vs.toArray))).push (seqObj "list" vs.toArray 0)) fun g1 => ?_
  intro hoL keep hsz2
  have hDn : s.heap.get? (s.heap.objs.size + 1) = none := Heap.get?_none_of_le (Nat.le_succ _)
  revert hsz2
  revert hDn
  revert hoL
  refine genE (s.heap.objs.size + 1) fun D hD => ?_
  intro hoL hDn hsz2
  refine wpAny_bind (wpAny_holding (wpAny_call_entry_kw slot_list_sort ⟨_, hoL, rfl⟩ entry_list_sort ?body (ksk_l1 _ _)))
  case body =>
    show wpAny (model prog w) A.in1.in1 (Builtin.«list.sort» ⟨[.ref D], [(Str.ofString "key", .ref q)]⟩) _ _ _
    rw [ksk_t1]
    -- the end, from the sorted list on
    have fin : ∀ B' h' tk ys, Le B B' → Hp h₀ B' h' ((D, .list ys) :: fled env m led) → IsStable xs kz ys → K (.ref D) { s with heap := h', toks := tk } := fun B' h' tk ys le H' hs =>
      newL_led (s := { s with heap := h', toks := tk }) (l2 := fled env m led) (h ys hs) (List.Sublist.refl _) H' fun B2 l2 r le2 H2 p => by
        obtain ⟨x, l1, e, rx, q⟩ := p
        exact k B2 h' tk l2 r (le.trans le2) H2 ⟨x, rx, l1, e, q⟩
    have s1 := Heap.SameBut.update g1 D (Obj.mapSeq fun _ => (#[] : Array Value))
    obtain ⟨e1, ho1⟩ : ∃ e1, (g1.update D (Obj.mapSeq fun _ => (#[] : Array Value))).get? D = some (seqObj "list" #[] e1) := ⟨_, get?_update_seq hoL fun _ => #[]⟩
    unfold ksk_tree
    refine wpAny_bind (listItems_at hoL rfl ?_)
    refine wpAny_bind (listUpdate_at hoL rfl ?_ (by rw [List.size_toArray]; lia) (Nat.zero_le _))
    refine wpAny_bind (seqEpoch_at ho1 rfl ?_)
    refine wpAny_bind (wpAny_newTuple ?_ (by show vs.length ≤ _; lia))
    refine wpAny_bind (wpAny_newList ?_ (Nat.zero_le _))
    refine wpAny_holding ?_
    have hS : ((g1.update D (Obj.mapSeq fun _ => (#[] : Array Value))).push (seqObj "tuple" vs.toArray 0)).objs.size = D + 2 := by rw [Heap.size_push, Heap.size_update, hsz2]; lia
    have hSn : s.heap.get? (D + 2) = none := Heap.get?_none_of_le (by lia)
    show wpAny _ _ _ _ _ { s with heap := ((g1.update D (Obj.mapSeq fun _ => (#[] : Array Value))).push (seqObj "tuple" vs.toArray 0)).push (seqObj "list" #[] 0) }
    have hoS : (((g1.update D (Obj.mapSeq fun _ => (#[] : Array Value))).push (seqObj "tuple" vs.toArray 0)).push (seqObj "list" #[] 0)).get? (D + 2) = some (seqObj "list" #[] 0) := by
      rw [← hS]; exact Heap.get?_push_size _ rfl
    have hoD : (((g1.update D (Obj.mapSeq fun _ => (#[] : Array Value))).push (seqObj "tuple" vs.toArray 0)).push (seqObj "list" #[] 0)).get? D = some (seqObj "list" #[] e1) :=
      Heap.get?_push_of_some _ (Heap.get?_push_of_some _ ho1)
    have keep2 : ∀ b o, s.heap.get? b = some o → (((g1.update D (Obj.mapSeq fun _ => (#[] : Array Value))).push (seqObj "tuple" vs.toArray 0)).push (seqObj "list" #[] 0)).get? b = some o := fun b o q => by
      refine Heap.get?_push_of_some _ (Heap.get?_push_of_some _ ((s1.2 b fun z => ?_).trans (keep b o q)))
      rw [z, hDn] at q; cases q
    have e4 : Value.ref ((g1.update D (Obj.mapSeq fun _ => (#[] : Array Value))).push (seqObj "tuple" vs.toArray 0)).objs.size = .ref (D + 2) := by rw [hS]
    simp only [e4]
    revert keep2
    revert hoD
    revert hoS
    refine gen (((g1.update D (Obj.mapSeq fun _ => (#[] : Array Value))).push (seqObj "tuple" vs.toArray 0)).push (seqObj "list" #[] 0)) fun g3 => ?_
    intro hoS hoD keep2
    have H0 : Hp h₀ B g3 ((D + 2, .list (mi [])) :: (D, .prd (· = seqObj "list" #[] e1)) :: fled env m led) := H.new2 hSn hDn (Nat.ne_of_gt (Nat.lt_add_of_pos_right (Nat.succ_pos 1))) keep2 ⟨[], 0, hoS, .nil⟩ ⟨_, hoD, rfl⟩
    unfold ksk_rest
    refine wpAny_bind (wpAny_rule ?_)
    first
      | rw [List.forIn_toArray]
      | (rw [← Array.forIn_toList]; simp only [List.toList_toArray])
      | rw [← Array.forIn_toList]
    refine wpAny_bind (ksk_fold (fun i s' => ∃ h' tk B', s' = { s with heap := h', toks := tk } ∧ Le B B' ∧ Hp h₀ B' h' ((D + 2, .list (mi (kz.take i))) :: (D, .prd (· = seqObj "list" #[] e1)) :: fled env m led)) vs 0 _
      ⟨g3, s.toks, B, rfl, Le.refl _, by simpa using H0⟩ ?step ?done)
    case step =>
      rintro j x s' hx ⟨h', tk, B', rfl, le, H'⟩
      simp only [Nat.zero_add] at H' ⊢
      obtain ⟨y, hy, ry⟩ := r0.getv hx
      have hj : j < kz.length := by rw [hlen]; exact (List.getElem?_eq_some_iff.mp hy).1
      have hkj : kz[j]? = some kz[j] := List.getElem?_eq_getElem hj
      refine wpAny_bind (wpAny_attempt (wpAny_mono ((hf j y _ hy hkj _).2 B' (.ref q) [x] [] .obj (.cons (ry.mono le) .nil) .nil { s with heap := h', toks := tk } (fun v s'' => ∃ h2 tk2 B2 t, s'' = { s with heap := h2, toks := tk2 } ∧ v = .int kz[j] t ∧ Le B' B2 ∧ Hp h₀ B2 h2 ((D + 2, .list (mi (kz.take j))) :: (D, .prd (· = seqObj "list" #[] e1)) :: fled env m led)) H' ?_) (fun v s'' he => ?_) fun _ _ hF => hF.elim))
      · rintro B2 h2 tk2 l2 v le2 H2 ⟨z, rz, rfl, rfl⟩
        obtain ⟨_, rfl⟩ := rz.int_
        exact ⟨h2, tk2, B2, _, rfl, rfl, le2, H2⟩
      · obtain ⟨h2, tk2, B2, t, rfl, rfl, le2, H2⟩ := he
        obtain ⟨_, lv, nv, hg, rl⟩ := H2.own _ (.head _)
        have s2 := Heap.SameBut.update h2 (D + 2) (Obj.mapSeq (·.push (.int kz[j] t)))
        have hlv : lv.length ≤ 64 := by rw [rl.length, mi_len, List.length_take]; lia
        obtain ⟨c2, hc2⟩ : ∃ c2, (h2.update (D + 2) (Obj.mapSeq (·.push (.int kz[j] t)))).get? (D + 2) = some (seqObj "list" (lv.toArray.push (.int kz[j] t)) c2) := ⟨_, get?_update_seq hg (·.push (.int kz[j] t))⟩
        have ek : kz.take (j + 1) = kz.take j ++ [kz[j]] := by rw [List.take_add_one, hkj]; simp
        try dsimp only
        refine wpAny_bind (listUpdate_at hg rfl ?_ (by rw [List.size_toArray]; lia) (Nat.le_trans (Nat.le_of_eq (Array.size_push ..)) (by rw [List.size_toArray]; lia)))
        refine wpAny_pure ⟨rfl, _, _, B2, rfl, le.trans le2, ?_⟩
        rw [ek]
        refine H2.turn0 (fun b o hb e => (s2.2 b hb).trans e) ⟨lv ++ [.int kz[j] t], c2, ?_, ?_⟩
        · rw [hc2]; simp
        · unfold mi; rw [List.map_append]
          exact rl.append (.cons .int .nil)
    case done =>
      rintro s' ⟨h', tk, B', rfl, le, H'⟩
      have ek : kz.take (0 + vs.length) = kz := List.take_of_length_le (by lia)
      rw [ek] at H'
      obtain ⟨_, ks, nv, hg, rl⟩ := H'.own _ (.head _)
      obtain ⟨_, oD, hoD', rfl⟩ := H'.own (D, .prd (· = seqObj "list" #[] e1)) (by simp)
      have hkl : ks.length = vs.length := by rw [rl.length, mi_len]; lia
      have hia : IntsAre ks kz := rl.intsAre
      try dsimp only
      refine wpAny_bind (listItems_at hg rfl ?_)
      unfold ksk_end
      try dsimp only
      rw [if_neg (by decide)]
      have hn2 : ¬ vs.toArray.size < 2 := by rw [List.size_toArray]; lia
      rw [if_neg hn2, if_neg hn2, ksk_kind (keys := ks.toArray) hia (by rw [List.size_toArray]; lia)]
      refine wpAny_bind (wpAny_pure ?_)
      rw [if_neg (by decide)]
      refine wpAny_bind (wpAny_mono (kat_run (s := { s with heap := h', toks := tk }) (ks := ks) (vs := vs) (Q := fun st' s' => s' = { s with heap := h', toks := tk } ∧ ∃ p : Array Nat, p.size = vs.length ∧ arrOf st' = p.map (kas_item (ks.toArray.zip vs.toArray)) ∧ failedOf st' = none ∧
          p.toList.Perm (List.range vs.length) ∧ SL (fun i => kz.getD i 0) p.toList) (G := fun p s' => s' = { s with heap := h', toks := tk } ∧ p.toList.Perm (List.range vs.length) ∧ SL (fun i => kz.getD i 0) p.toList)
        hkl (by lia) (by lia) (fun p st' s' a1 a2 a3 ⟨a4, a5⟩ => ⟨a4, p, a1, a2, a3, a5⟩) (kas_stable (k := fun i => kz.getD i 0) (fun i j C hi hj hC => ?_) (by lia) fun p' b1 b2 => ⟨rfl, b1, b2⟩)) ?_ fun _ _ x => x)
      · have g : ∀ i, i < vs.length → ∃ t, ks.getD i .none = .int (kz.getD i 0) t := fun i hi => by
          have := rl.getD i
          have e : (mi kz).getD i .none = .int (kz.getD i 0) := by
            unfold mi
            rw [List.getD_eq_getElem?_getD, List.getD_eq_getElem?_getD, List.getElem?_map, List.getElem?_eq_getElem (by lia)]; rfl
          rw [e] at this
          revert this
          refine gen (ks.getD i .none) fun v => ?_
          exact VR.int_
        obtain ⟨t1, g1⟩ := g i hi
        obtain ⟨t2, g2⟩ := g j hj
        show wpAny _ _ (keyLt' oneType' (ks.getD i .none) (ks.getD j .none)) _ _ _
        rw [g1, g2]
        exact kat_lt_int hC
      · rintro ⟨⟨⟩, st'⟩ s' ⟨rfl, p, hp, har, hfl, hpm, hsl⟩
        have hout := kat_snds hkl har
        have s2 := Heap.SameBut.update h' (D + 2) (Obj.mapSeq fun _ => (#[] : Array Value))
        obtain ⟨c2, hc2⟩ : ∃ c2, (h'.update (D + 2) (Obj.mapSeq fun _ => (#[] : Array Value))).get? (D + 2) = some (seqObj "list" #[] c2) := ⟨_, get?_update_seq hg fun _ => #[]⟩
        have H2 : Hp h₀ B' (h'.update (D + 2) (Obj.mapSeq fun _ => (#[] : Array Value))) ((D, .prd (· = seqObj "list" #[] e1)) :: fled env m led) := H'.drop0 fun b o hb e => (s2.2 b hb).trans e
        obtain ⟨_, oD2, hoD2, rfl⟩ := H2.own (D, .prd (· = seqObj "list" #[] e1)) (.head _)
        revert hout
        refine genE ((p.toList.map fun i => vs.getD i Value.none)) fun out hys => ?_
        intro hout
        have hol : out.length = vs.length := by rw [← hys, List.length_map, Array.length_toList, hp]
        have s3 := Heap.SameBut.update (h'.update (D + 2) (Obj.mapSeq fun _ => (#[] : Array Value))) D (Obj.mapSeq fun _ => out.toArray)
        obtain ⟨c3, hc3⟩ : ∃ c3, ((h'.update (D + 2) (Obj.mapSeq fun _ => (#[] : Array Value))).update D (Obj.mapSeq fun _ => out.toArray)).get? D = some (seqObj "list" out.toArray c3) := ⟨_, get?_update_seq hoD2 fun _ => out.toArray⟩
        have H3 := H2.turn0 (c' := .list (p.toList.map fun i => xs.getD i .none)) (fun b o hb e => (s3.2 b hb).trans e) ⟨out, c3, hc3, by rw [← hys]; exact (r0.mono le).picks _⟩
        unfold ksk_tail
        try dsimp only
        rw [hout, if_neg (by decide)]
        refine wpAny_bind (listUpdate_at hg rfl ?_ (by rw [List.size_toArray]; lia) (Nat.zero_le _))
        refine wpAny_bind (wpAny_letGo ?_)
        refine wpAny_bind (seqEpoch_at hoD2 rfl ?_)
        refine wpAny_bind (listUpdate_at hoD2 rfl ?_ (Nat.zero_le _) (by rw [List.size_toArray]; lia))
        rw [hfl]
        simp only [bne_self_eq_false, Bool.false_eq_true, if_false]
        refine wpAny_pure ⟨_, rfl, wpAny_pure ⟨_, rfl, ?_⟩⟩
        rw [hvl] at hpm
        exact fin B' _ _ _ le H3 ⟨p.toList, hpm, hsl, rfl⟩
end
end Yy

end

section
set_option maxRecDepth 100000
namespace Yy
open PySem PySem.W PySem.Calls PyProof.Rows

section
variable {prog : Program} {w : World} {h₀ : Heap}
variable {A : Around} {env : Env} {m : Vars} {led : Led} {Q : Led → MV → Prop} {QT : Led → Bool → Prop} {Qn : Vars → Led → Prop} {Qr : Led → MV → Prop}

/-- a comprehension without a test that turns its own list and a cell -/
theorem CompR.toC {cenv : Env} {E : Led} {t : Expr} {elt : Expr} {D : Addr} {QL : Led → List MV → Prop} {items : List MV} (ld : Option MV → Led) (xs : List MV) (hl : xs.length = items.length) (hz : items.length ≤ 2 ^ 20)
    (step : ∀ (i : Nat) y acc s, items[i]? = some y → As prog w h₀ A cenv [] ((D, .list acc) :: ld s) t y fun m' l' => E1 prog w h₀ A cenv m' l' elt fun l3 x => ∃ s', l3 = (D, .list acc) :: ld s' ∧ xs[i]? = some x)
    (s : Option MV) (fin : ∀ s, QL (ld s) xs) (hE : ∀ s, ∀ e ∈ E, e ∈ ld s) : CompR prog w h₀ A cenv t [] elt D E QL items [] [] (ld s) := by
  have sz : sizeLine = 2 ^ 24 := rfl
  have main : ∀ (rest : List MV) (i : Nat) (m : Vars) (s : Option MV), i + rest.length = items.length → items.drop i = rest → CompR prog w h₀ A cenv t [] elt D E QL rest (xs.take i) m (ld s) := by
    intro rest
    induction rest with
    | nil =>
      intro i m s hi _
      have : i = items.length := by simpa using hi
      subst this
      show (∀ e ∈ E, e ∈ ld s) ∧ QL (ld s) (xs.take items.length)
      refine ⟨hE s, ?_⟩
      rw [List.take_of_length_le (Nat.le_of_eq hl)]; exact fin s
    | cons y ys ih =>
      intro i m s hi hd
      have hlt : i < items.length := by rw [← hi]; exact Nat.lt_add_of_pos_right (Nat.succ_pos _)
      have hy : items[i]? = some y := by
        have := congrArg (·[0]?) hd
        simpa using this
      have hd' : items.drop (i + 1) = ys := by
        have := congrArg (List.drop 1) hd
        simpa using this
      refine ⟨hE s, As.has (Has.nil : Has m []) ?_⟩
      intro B v rv sh K H k
      refine step i y _ s hy B v rv sh K H fun B' h' tk l r le H' p => k B' h' tk l r le H' ?_
      obtain ⟨m', l', e, q⟩ := p
      refine ⟨m', l', e, ?_⟩
      show (true = true → _) ∧ (true = false → _)
      refine ⟨fun _ => ⟨?_, q.mono fun l3 x ⟨s', e3, hx⟩ => ⟨ld s', e3, ?_⟩⟩, fun e => nomatch e⟩
      · rw [List.length_take, sz]
        exact Nat.le_trans (Nat.min_le_left _ _) (Nat.le_trans (Nat.le_of_lt hlt) (Nat.le_trans hz (by decide)))
      have e5 : xs.take i ++ [x] = xs.take (i + 1) := by rw [List.take_add_one, hx]; rfl
      rw [e5]
      exact ih (i + 1) m' s' (by rw [← hi, List.length_cons, Nat.add_right_comm, Nat.add_assoc]) hd'
  have := main items 0 [] s (Nat.zero_add _) rfl
  rwa [List.take_zero] at this
/-- a comprehension without a test that turns nothing but its own list -/
theorem CompR.to {cenv : Env} {E : Led} {t : Expr} {elt : Expr} {D : Addr} {QL : Led → List MV → Prop} {items : List MV} (xs : List MV) (hl : xs.length = items.length) (hz : items.length ≤ 2 ^ 20)
    (step : ∀ (i : Nat) y acc, items[i]? = some y → As prog w h₀ A cenv [] ((D, .list acc) :: led) t y fun m' l' => E1 prog w h₀ A cenv m' l' elt fun l3 x => l3 = (D, .list acc) :: led ∧ xs[i]? = some x)
    (fin : QL led xs) (hE : ∀ e ∈ E, e ∈ led := by intro _ h; cases h) : CompR prog w h₀ A cenv t [] elt D E QL items [] [] led :=
  CompR.toC (fun _ => led) xs hl hz (fun i y acc s hy => by
    intro B v rv sh K H k
    refine step i y acc hy B v rv sh K H fun B' h' tk l r le H' p => k B' h' tk l r le H' ?_
    obtain ⟨m', l', e, q⟩ := p
    exact ⟨m', l', e, q.mono fun l3 x h => ⟨none, h⟩⟩) none (fun _ => fin) fun _ => hE

/-- a slice by steps of a list of numbers that stands still -/
theorem E1.sliceStep {value : Expr} {lower upper : Option Expr} {st : Expr} {p pos}
    (h : E1 prog w h₀ A env m led value (fun l x => BdQ env m prog w h₀ A l lower (fun l1 lo => BdQ env m prog w h₀ A l1 upper (fun l2 hi => BdQ env m prog w h₀ A l2 (some st) (fun l3 c => ∃ ns, x = .lst (mi ns) ∧ c ≠ some 0 ∧ ns.length ≤ sizeLine ∧ Q l3 (.lst (mi (pickNums ns lo hi c))))))))
    (ht : ∀ o r, letTemporaryGo value o r = Pure.pure () := by intro _ _; rfl) : E1 prog w h₀ A env m led (.Subscript value (.Slice lower upper (some st) p) pos) Q := fun B s K H k => by
  refine Subscript_ (E1.use h H fun B1 h1 tk1 va x led1 le1 H1 ra q => ?_)
  refine wpAny_Slice (q.sound B1 _ _ H1 ?_)
  rintro B2 h2 tk2 _ vl le2 H2 ⟨lo, led2, rfl, pl, -, q2⟩
  refine q2.sound B2 _ _ H2 ?_
  rintro B3 h3 tk3 _ vu le3 H3 ⟨up, led3, rfl, pu, -, q3⟩
  refine q3.sound B3 _ _ H3 ?_
  rintro B4 h4 tk4 _ vk le4 H4 ⟨c, led4, rfl, pk, -, ns, rfl, h0, hz, qq⟩
  have H5 : Hp h₀ B4 (h4.push { cls := .type "slice", data := .fields #[vl, vu, vk] }) (fled env m led4) := H4.keeps fun b o e => Heap.get?_push_of_some _ e
  have hs : ∀ o i, subscripted (.Slice lower upper (some st) p) false o i = operate [o, i] (getItem o i) := fun _ _ => rfl
  cases ra with
  | lst e0 rs =>
    rename_i a n l
    have e : (h4.push { cls := .type "slice", data := .fields #[vl, vu, vk] }).get? a = some (lstO l n) := Heap.get?_push_of_some _ (H4.keep _ _ (le4 _ _ (le3 _ _ (le2 _ _ e0))))
    have hl : (h4.push { cls := .type "slice", data := .fields #[vl, vu, vk] }).IsList a l.toArray := ⟨_, e, rfl, n, rfl⟩
    refine tail_any (T := "list") ⟨_, e, rfl⟩ slot_list_getitem.lookup (wpAny_getItem_list_slice (s := { s with heap := _, toks := tk4 }) hl (Heap.IsSliceOf.new ..) pl pu pk h0 ?_ (by rw [List.size_toArray, rs.length, mi_len]; exact hz)) (hs _ _)
    have hi := rs.intsAre.pick lo up c
    have e7 : ({ cls := .type "list", data := .seq (slicePick l.toArray lo up c) } : Obj) = lstO (slicePick l.toArray lo up c).toList 0 := by rw [Array.toArray_toList]
    obtain ⟨H6, le6⟩ := H5.frz (o := lstO (slicePick l.toArray lo up c).toList 0) (fresh_none _) (fun b o e => Heap.get?_push_of_some _ e) (by rw [← e7]; exact Heap.get?_push_size _ rfl)
    have vi : ∀ {B : Fz} {vs : List Value} {ns : List Int}, IntsAre vs ns → VRs B vs (mi ns) := fun {B vs ns} h => by
      induction h with
      | nil => exact .nil
      | cons n t _ ih => exact .cons .int ih
    rw [e7]
    exact k _ _ tk4 _ _ ((((le1.trans le2).trans le3).trans le4).trans le6) H6 ⟨_, led4, rfl, .lst addB_self (vi hi), qq⟩
end

end Yy

end

section
namespace Yy
open PySem PySem.Builtin PyProof.Rows

/-! ### bits of numbers that are not below nought -/
theorem bAnd (x y : Nat) : bitAnd (x : Int) (y : Int) = ((x &&& y : Nat) : Int) := by
  unfold bitAnd
  simp
theorem bOr_and (x y : Int) : bitOr x y = x + y - bitAnd x y := by
  have := bitXor_and x y
  unfold bitXor at this
  lia
theorem and_high (x s : Nat) : x &&& (x / 2 ^ s * 2 ^ s) = x / 2 ^ s * 2 ^ s := by
  apply Nat.eq_of_testBit_eq
  intro i
  rw [Nat.testBit_and, Nat.testBit_mul_two_pow, Nat.testBit_div_two_pow]
  by_cases h : s ≤ i
  · simp [h]
  · simp [h]
theorem and_low (q r n : Nat) (hr : r < 2 ^ n) : (q * 2 ^ n) &&& r = 0 := by
  apply Nat.eq_of_testBit_eq
  intro i
  rw [Nat.testBit_and, Nat.testBit_mul_two_pow, Nat.zero_testBit]
  by_cases h : n ≤ i
  · have : r.testBit i = false := Nat.testBit_lt_two_pow (Nat.lt_of_lt_of_le hr (Nat.pow_le_pow_right (by decide) h))
    simp [this]
  · simp [h]
theorem bXor_high {x : Int} {s : Nat} (hx : 0 ≤ x) : bitXor x (x / 2 ^ s * 2 ^ s) = x % 2 ^ s := by
  obtain ⟨x, rfl⟩ := Int.eq_ofNat_of_zero_le hx
  have e : ((x : Int) / 2 ^ s * 2 ^ s) = ((x / 2 ^ s * 2 ^ s : Nat) : Int) := by push_cast; rfl
  have e2 : ((x : Int) % 2 ^ s) = ((x % 2 ^ s : Nat) : Int) := by push_cast; rfl
  rw [bitXor_and, e, bAnd, and_high, e2]
  have := Nat.div_add_mod x (2 ^ s)
  have h3 : 2 ^ s * (x / 2 ^ s) = x / 2 ^ s * 2 ^ s := Nat.mul_comm _ _
  lia
theorem bOr_low {q r : Int} {n : Nat} (hq : 0 ≤ q) (h0 : 0 ≤ r) (hr : r < 2 ^ n) : bitOr (q * 2 ^ n) r = q * 2 ^ n + r := by
  obtain ⟨q, rfl⟩ := Int.eq_ofNat_of_zero_le hq
  obtain ⟨r, rfl⟩ := Int.eq_ofNat_of_zero_le h0
  have hr' : r < 2 ^ n := by have : ((r : Int)) < ((2 ^ n : Nat) : Int) := by push_cast; exact hr
                             lia
  have e : ((q : Int) * 2 ^ n) = ((q * 2 ^ n : Nat) : Int) := by push_cast; rfl
  rw [bOr_and, e, bAnd, and_low q r n hr']
  simp
theorem bAnd_mask {x : Int} {n : Nat} (hx : 0 ≤ x) : bitAnd x (1 * 2 ^ n - 1) = x % 2 ^ n := by
  obtain ⟨x, rfl⟩ := Int.eq_ofNat_of_zero_le hx
  have hp : 0 < 2 ^ n := Nat.pow_pos (by decide)
  have e : ((1 : Int) * 2 ^ n - 1) = ((2 ^ n - 1 : Nat) : Int) := by
    rw [Int.one_mul, Int.natCast_sub hp]; push_cast; rfl
  have e2 : ((x : Int) % 2 ^ n) = ((x % 2 ^ n : Nat) : Int) := by push_cast; rfl
  rw [e, bAnd, Nat.and_two_pow_sub_one_eq_mod, e2]
theorem fdiv_pow {x : Int} {s : Nat} : x.fdiv (2 ^ s) = x / 2 ^ s := Int.fdiv_eq_ediv_of_nonneg _ (Int.le_of_lt (Int.pow_pos (by decide)))
theorem fmod_pos {x y : Int} (hy : 0 ≤ y) : x.fmod y = x % y := Int.fmod_eq_emod_of_nonneg _ hy
theorem pow_pos2 (n : Nat) : (0 : Int) < 2 ^ n := Int.pow_pos (by decide)
theorem bits_le {x : Int} {m : Nat} (h0 : 0 ≤ x) (h : x < 2 ^ m) : Builtin.Int.intBits x ≤ m := by
  rw [PySem.intBits_le_iff]
  have : (x.natAbs : Int) < ((2 ^ m : Nat) : Int) := by rw [Int.natAbs_of_nonneg h0]; push_cast; exact h
  lia

/-! ### digits -/
theorem bits_lt {x : Int} {m : Nat} (h0 : 0 ≤ x) (h : Builtin.Int.intBits x ≤ m) : x < 2 ^ m := by
  have h1 : ((x.natAbs : Nat) : Int) < ((2 ^ m : Nat) : Int) := Int.ofNat_lt.mpr (PySem.intBits_le_iff.mp h)
  rw [Int.natAbs_of_nonneg h0] at h1
  push_cast at h1; exact h1
theorem bits_neg' (a : Int) : Builtin.Int.intBits (-a) = Builtin.Int.intBits a := Nat.le_antisymm (PySem.intBits_le_of_natAbs (Nat.le_of_eq (Int.natAbs_neg a)) (Nat.le_refl _)) (PySem.intBits_le_of_natAbs (Nat.le_of_eq (Int.natAbs_neg a).symm) (Nat.le_refl _))
theorem bits_pos {a : Int} (h : 0 < a) : 1 ≤ Builtin.Int.intBits a := by
  rcases Nat.eq_zero_or_pos (Builtin.Int.intBits a) with e | e
  · exact absurd (bits_lt (Int.le_of_lt h) (Nat.le_of_eq e)) (Int.not_lt.mpr h)
  · exact e
theorem pred_abs {a : Int} (h : a < 0) : (-a - 1).natAbs ≤ a.natAbs := by
  cases a with
  | ofNat n => exact absurd h (Int.not_lt.mpr (Int.natCast_nonneg _))
  | negSucc n =>
    show (((n + 1 : Nat) : Int) - 1).natAbs ≤ n + 1
    rw [Int.natCast_succ, Int.add_sub_cancel]; exact Nat.le_succ n
theorem ceil_ge {x n : Nat} (hn : 1 ≤ n) : x ≤ n * ((x + n - 1) / n) := by
  have h2 := Nat.div_add_mod (x + n - 1) n
  have h3 := Nat.mod_lt (x + n - 1) hn
  generalize n * ((x + n - 1) / n) = y at *
  generalize (x + n - 1) % n = z at *
  refine Nat.le_of_add_le_add_right (b := n) ?_
  rw [← Nat.sub_add_cancel (show 1 ≤ x + n from Nat.le_trans hn (Nat.le_add_left n x)), ← h2]
  exact Nat.add_lt_add_left h3 y
theorem abs_mono {x y : Int} (h0 : 0 ≤ x) (h : x ≤ y) : x.natAbs ≤ y.natAbs := Int.ofNat_le.mp (by rw [Int.natAbs_of_nonneg h0, Int.natAbs_of_nonneg (Int.le_trans h0 h)]; exact h)
theorem mulcl {a b A B : Nat} {K : Int} (ha : a ≤ A) (hb : b ≤ B) (h : ((A * B : Nat) : Int) ≤ K) : (a : Int) * (b : Int) ≤ K := Int.le_trans (by rw [← Int.natCast_mul]; exact Int.ofNat_le.mpr (Nat.mul_le_mul ha hb)) h
noncomputable def digs (n : Nat) : Nat → Int → List Int
  | 0, _ => []
  | k + 1, x => x % 2 ^ n :: digs n k (x / 2 ^ n)
theorem digs_zero (n : Nat) (x : Int) : digs n 0 x = [] := rfl
theorem digs_succ (n k : Nat) (x : Int) : digs n (k + 1) x = x % 2 ^ n :: digs n k (x / 2 ^ n) := rfl
theorem digs_len (n : Nat) : ∀ k x, (digs n k x).length = k
  | 0, _ => rfl
  | k + 1, x => by rw [digs_succ, List.length_cons, digs_len n k]
theorem digs_app (n : Nat) : ∀ (j k : Nat) (x : Int), digs n (j + k) x = digs n j (x % 2 ^ (n * j)) ++ digs n k (x / 2 ^ (n * j))
  | 0, k, x => by simp [digs_zero]
  | j + 1, k, x => by
    have e1 : (2 : Int) ^ (n * (j + 1)) = 2 ^ n * 2 ^ (n * j) := by rw [Nat.mul_add, Nat.mul_one, Nat.add_comm, Int.pow_add]
    rw [show j + 1 + k = (j + k) + 1 by lia, digs_succ, digs_app n j k, digs_succ, e1, List.cons_append]
    congr 1
    · rw [Int.emod_emod_of_dvd]; exact ⟨_, rfl⟩
    · congr 1
      · congr 1
        have h1 := pow_pos2 n
        rw [Int.emod_def x (2 ^ n * 2 ^ (n * j)), Int.emod_def (x / 2 ^ n), Int.ediv_ediv_of_nonneg (Int.le_of_lt h1),
          show x - 2 ^ n * 2 ^ (n * j) * (x / (2 ^ n * 2 ^ (n * j))) = x + 2 ^ n * (-(2 ^ (n * j) * (x / (2 ^ n * 2 ^ (n * j))))) by rw [Int.mul_neg, ← Int.mul_assoc, ← Int.sub_eq_add_neg],
          Int.add_mul_ediv_left _ _ (by lia), ← Int.sub_eq_add_neg]
      · rw [Int.ediv_ediv_of_nonneg (Int.le_of_lt (pow_pos2 n))]
theorem digs_one {n : Nat} {x : Int} (h0 : 0 ≤ x) (h : x < 2 ^ n) : digs n 1 x = [x] := by
  show [x % 2 ^ n] = [x]
  rw [Int.emod_eq_of_lt h0 h]
/-- digits, put together -/
noncomputable def undig (n : Nat) : List Int → Int
  | [] => 0
  | d :: ds => d + 2 ^ n * undig n ds
theorem undig_nil (n : Nat) : undig n [] = 0 := rfl
theorem undig_cons (n : Nat) (d : Int) (ds : List Int) : undig n (d :: ds) = d + 2 ^ n * undig n ds := rfl
theorem undig_app (n : Nat) : ∀ (a b : List Int), undig n (a ++ b) = undig n a + 2 ^ (n * a.length) * undig n b
  | [], b => by simp [undig_nil]
  | d :: ds, b => by
    rw [List.cons_append, undig_cons, undig_cons, undig_app n ds b, List.length_cons, Nat.mul_add, Nat.mul_one, Int.pow_add, Int.mul_add, Int.add_assoc]
    congr 2
    rw [← Int.mul_assoc, Int.mul_comm (2 ^ n)]
theorem undig_digs (n : Nat) : ∀ k x, undig n (digs n k x) = x % 2 ^ (n * k)
  | 0, x => by simp [digs_zero, undig_nil, Int.emod_one]
  | k + 1, x => by
    rw [digs_succ, undig_cons, undig_digs n k, Nat.mul_add, Nat.mul_one, Int.pow_add]
    have h1 := pow_pos2 n
    rw [Int.emod_def x (2 ^ (n * k) * 2 ^ n), Int.emod_def x (2 ^ n), Int.emod_def (x / 2 ^ n), Int.ediv_ediv_of_nonneg (Int.le_of_lt h1), Int.mul_comm (2 ^ (n * k)) (2 ^ n), Int.mul_sub, Int.mul_assoc]
    generalize 2 ^ n * (2 ^ (n * k) * (x / (2 ^ n * 2 ^ (n * k)))) = u
    generalize 2 ^ n * (x / 2 ^ n) = v
    lia
theorem undig_bound (n : Nat) : ∀ (ds : List Int), (∀ d ∈ ds, 0 ≤ d ∧ d < 2 ^ n) → 0 ≤ undig n ds ∧ undig n ds < 2 ^ (n * ds.length)
  | [], _ => by simp [undig_nil]
  | d :: ds, h => by
    have hd := h d (.head _)
    have ih := undig_bound n ds fun x hx => h x (.tail _ hx)
    rw [undig_cons, List.length_cons, Nat.mul_add, Nat.mul_one, Int.pow_add]
    have h1 := pow_pos2 n
    have h2 : 0 ≤ 2 ^ n * undig n ds := Int.mul_nonneg (Int.le_of_lt h1) ih.1
    have h3 : 2 ^ n * (undig n ds + 1) ≤ 2 ^ n * 2 ^ (n * ds.length) := Int.mul_le_mul_of_nonneg_left ih.2 (Int.le_of_lt h1)
    rw [Int.mul_add, Int.mul_one] at h3
    rw [Int.mul_comm (2 ^ (n * ds.length))]
    exact ⟨Int.add_nonneg hd.1 h2, Int.lt_of_lt_of_le (by rw [Int.add_comm]; exact Int.add_lt_add_left hd.2 _) h3⟩
theorem digs_bound (n : Nat) : ∀ k x, ∀ d ∈ digs n k x, 0 ≤ d ∧ d < 2 ^ n
  | 0, _, _, h => nomatch h
  | k + 1, x, d, h => by
    rcases List.mem_cons.mp h with rfl | h
    · exact ⟨Int.emod_nonneg _ (Int.ne_of_gt (pow_pos2 n)), Int.emod_lt_of_pos _ (pow_pos2 n)⟩
    · exact digs_bound n k _ d h
end Yy

end

section
namespace Yy
open PySem PySem.Builtin PyProof.Rows

theorem dm_of {a b q r : Int} (h0 : 0 ≤ r) (h1 : r < b) (h : q * b + r = a) : a / b = q ∧ a % b = r := by
  have hb : 0 < b := by lia
  refine (Int.ediv_emod_unique hb).mpr ⟨?_, h0, h1⟩
  rw [Int.mul_comm] at h; lia
theorem ediv_lt_of {x b m : Int} (hb : 0 < b) (h : x < b * m) : x / b < m := Int.ediv_lt_of_lt_mul hb (by rw [Int.mul_comm]; exact h)
theorem pow_split (m k : Nat) : (2 : Int) ^ (m + k) = 2 ^ m * 2 ^ k := Int.pow_add ..

/-- a bound on lengths bars the long way -/
theorem noPylong_bits {a b : Int} {n : Nat} (hn : 1 ≤ n) (hb0 : 2 ^ (n - 1) ≤ b) (ha : Builtin.Int.intBits a ≤ n + 4000) : Builtin.divisionGoesByPylong a b = false := by
  have hbp : 0 < b := Int.lt_of_lt_of_le (pow_pos2 _) hb0
  have h1 : n - 1 ≤ b.natAbs.log2 := by
    refine (Nat.le_log2 (Int.natAbs_ne_zero.mpr (Int.ne_of_gt hbp))).mpr ?_
    have : ((2 ^ (n - 1) : Nat) : Int) ≤ (b.natAbs : Int) := by rw [Int.natAbs_of_nonneg (Int.le_of_lt hbp)]; push_cast; exact hb0
    exact Int.ofNat_le.mp this
  unfold Builtin.divisionGoesByPylong
  have e1 : (b == 0) = false := beq_eq_false_iff_ne.mpr (Int.ne_of_gt hbp)
  rw [Bool.and_eq_false_iff]
  right
  simp only [e1, Bool.false_eq_true, if_false, decide_eq_false_iff_not, gt_iff_lt, Nat.not_lt]
  unfold Builtin.Int.intBits at ha
  split
  · exact Nat.zero_le _
  · rename_i h
    rw [if_neg h] at ha
    lia

/-- 3 halves by 2 -/
theorem d3_first {a12 a3 b b1 b2 : Int} {n : Nat} (hb : b = b1 * 2 ^ n + b2) (hb2 : 0 ≤ b2 ∧ b2 < 2 ^ n) (hb1 : 0 < b1) (h0 : 0 ≤ a12) (ha3 : 0 ≤ a3 ∧ a3 < 2 ^ n) (hx : a12 * 2 ^ n + a3 < b * 2 ^ n) :
    a12 / 2 ^ n ≤ b1 := by
  have hp := pow_pos2 n
  have h1 : a12 < b := by
    have : a12 * 2 ^ n < b * 2 ^ n := Int.lt_of_le_of_lt (Int.le_add_of_nonneg_right ha3.1) hx
    exact Int.lt_of_mul_lt_mul_right this (Int.le_of_lt hp)
  have h2 : a12 < 2 ^ n * (b1 + 1) := by rw [Int.mul_add, Int.mul_one, Int.mul_comm]; exact Int.lt_trans h1 (by rw [hb]; exact Int.add_lt_add_left hb2.2 _)
  exact Int.le_of_lt_add_one (ediv_lt_of hp h2)
theorem d3_rec {a12 b1 : Int} {n : Nat} (h : a12 / 2 ^ n ≤ b1) (hne : ¬ a12 / 2 ^ n = b1) : a12 < b1 * 2 ^ n := by
  have hp := pow_pos2 n
  have h1 := Int.mul_ediv_add_emod a12 (2 ^ n)
  have h2 := Int.emod_lt_of_pos a12 hp
  have h3 : 2 ^ n * (a12 / 2 ^ n) ≤ 2 ^ n * (b1 - 1) := Int.mul_le_mul_of_nonneg_left (Int.le_sub_one_of_lt (Int.lt_iff_le_and_ne.mpr ⟨h, hne⟩)) (Int.le_of_lt hp)
  rw [Int.mul_sub, Int.mul_one, Int.mul_comm (2 ^ n) b1] at h3
  rw [← h1]
  exact Int.lt_of_lt_of_le (Int.add_lt_add_left h2 _) (Int.add_le_of_le_sub_right h3)
/-- what is left ahead of the corrections: below b -/
theorem d3_below {a12 a3 b b1 b2 q r : Int} {n : Nat} (hb : b = b1 * 2 ^ n + b2) (hb2 : 0 ≤ b2 ∧ b2 < 2 ^ n) (ha3 : 0 ≤ a3 ∧ a3 < 2 ^ n) (hx : a12 * 2 ^ n + a3 < b * 2 ^ n)
    (hc : (r < b1 ∧ 0 ≤ q) ∨ q = 2 ^ n - 1) (hq : q * b1 + r = a12) : r * 2 ^ n + a3 - q * b2 < b ∧ q * b + (r * 2 ^ n + a3 - q * b2) = a12 * 2 ^ n + a3 := by
  have hp := pow_pos2 n
  have e : q * b + (r * 2 ^ n + a3 - q * b2) = a12 * 2 ^ n + a3 := by
    rw [hb, ← hq, Int.mul_add, Int.add_mul, Int.mul_assoc]; lia
  refine ⟨?_, e⟩
  rcases hc with ⟨hr, hq0⟩ | rfl
  · have h1 : (r + 1) * 2 ^ n ≤ b1 * 2 ^ n := Int.mul_le_mul_of_nonneg_right hr (Int.le_of_lt hp)
    rw [Int.add_mul, Int.one_mul] at h1
    have h2 : 0 ≤ q * b2 := Int.mul_nonneg hq0 hb2.1
    rw [hb]
    exact Int.lt_of_le_of_lt (Int.sub_le_self _ h2) (Int.lt_of_lt_of_le (Int.add_lt_add_left ha3.2 _) (Int.le_trans h1 (Int.le_add_of_nonneg_right hb2.1)))
  · have e2 : (2 ^ n - 1) * b = b * 2 ^ n - b := by rw [Int.sub_mul, Int.one_mul, Int.mul_comm]
    rw [e2] at e
    exact Int.lt_of_add_lt_add_left (a := b * 2 ^ n - b) (by rw [Int.sub_add_cancel, e]; exact hx)

theorem neg_rest {x b : Int} (h0 : 0 ≤ x) (h1 : x < b) : 0 ≤ b + (-x - 1) ∧ b + (-x - 1) < b := by
  rw [show b + (-x - 1) = b - (x + 1) by show b + (-x + -1) = _; rw [← Int.neg_add]; rfl]
  exact ⟨Int.sub_nonneg_of_le h1, Int.sub_lt_self _ (Int.lt_add_one_of_le h0)⟩
theorem neg_sum {u r a b : Int} (e : u + r = -a - 1) : -u - b + (b + (-r - 1)) = a := by
  rw [← Int.add_assoc, Int.sub_add_cancel, Int.sub_eq_add_neg, ← Int.add_assoc, ← Int.neg_add, e, Int.neg_sub, Int.sub_neg, Int.add_comm 1 a, ← Int.sub_eq_add_neg, Int.add_sub_cancel]
/-- two steps of three halves -/
theorem d2_join {a b A3 : Int} {h : Nat} (hb : 0 < b) (ha3 : 0 ≤ A3 ∧ A3 < 2 ^ h) (ha : 0 ≤ a) (hx : a < b * 2 ^ h * 2 ^ h) (e3 : A3 = a % 2 ^ h) :
    a / 2 ^ h < b * 2 ^ h ∧ (a / 2 ^ h % b) * 2 ^ h + A3 < b * 2 ^ h ∧ ((a / 2 ^ h % b) * 2 ^ h + A3) / b < 2 ^ h ∧
    a / b = (a / 2 ^ h / b) * 2 ^ h + ((a / 2 ^ h % b) * 2 ^ h + A3) / b ∧ a % b = ((a / 2 ^ h % b) * 2 ^ h + A3) % b := by
  have hp := pow_pos2 h
  have h1 : a / 2 ^ h < b * 2 ^ h := ediv_lt_of hp (by rw [Int.mul_comm]; exact hx)
  have h2 : a / 2 ^ h % b < b := Int.emod_lt_of_pos _ hb
  have h2' : 0 ≤ a / 2 ^ h % b := Int.emod_nonneg _ (Int.ne_of_gt hb)
  have h3 : (a / 2 ^ h % b) * 2 ^ h + A3 < b * 2 ^ h := by
    have : (a / 2 ^ h % b + 1) * 2 ^ h ≤ b * 2 ^ h := Int.mul_le_mul_of_nonneg_right h2 (Int.le_of_lt hp)
    rw [Int.add_mul, Int.one_mul] at this
    exact Int.lt_of_lt_of_le (Int.add_lt_add_left ha3.2 _) this
  have h4 : ((a / 2 ^ h % b) * 2 ^ h + A3) / b < 2 ^ h := ediv_lt_of hb h3
  refine ⟨h1, h3, h4, ?_⟩
  have d1 := Int.mul_ediv_add_emod a (2 ^ h)
  have d2 := Int.mul_ediv_add_emod (a / 2 ^ h) b
  have d3 := Int.mul_ediv_add_emod ((a / 2 ^ h % b) * 2 ^ h + A3) b
  generalize hX : (a / 2 ^ h % b) * 2 ^ h + A3 = X at h3 h4 d3 ⊢
  have m1 := Int.emod_lt_of_pos X hb
  have m0 := Int.emod_nonneg X (Int.ne_of_gt hb)
  refine dm_of m0 m1 ?_
  rw [← e3] at d1
  have e4 : a = 2 ^ h * (b * (a / 2 ^ h / b) + a / 2 ^ h % b) + A3 := by rw [d2]; exact d1.symm
  have e5 : (a / 2 ^ h / b * 2 ^ h + X / b) * b = 2 ^ h * (b * (a / 2 ^ h / b)) + b * (X / b) := by
    rw [Int.add_mul, Int.mul_comm (X / b) b, Int.mul_assoc, Int.mul_comm (a / 2 ^ h / b), Int.mul_assoc]
  rw [e5]
  have e6 : 2 ^ h * (b * (a / 2 ^ h / b) + a / 2 ^ h % b) = 2 ^ h * (b * (a / 2 ^ h / b)) + (a / 2 ^ h % b) * 2 ^ h := by
    rw [Int.mul_add, Int.mul_comm (2 ^ h) (a / 2 ^ h % b)]
  rw [Int.add_assoc, d3, ← hX, ← Int.add_assoc, ← e6]
  exact e4.symm
theorem dm_pad {a b : Int} (p : Nat) (hb : 0 < b) : (a * 2 ^ p) / (b * 2 ^ p) = a / b ∧ (a * 2 ^ p) % (b * 2 ^ p) / 2 ^ p = a % b := by
  have hp := pow_pos2 p
  constructor
  · exact Int.mul_ediv_mul_of_pos_left a b hp
  · rw [Int.mul_comm a, Int.mul_comm b, Int.mul_emod_mul_of_pos _ _ hp, Int.mul_ediv_cancel_left _ (Int.ne_of_gt hp)]
end Yy

end

section
set_option maxRecDepth 100000
namespace Yy
open PySem PySem.Sre PySem.Builtin PySem.Builtin.Re

/-! ### the machine of patterns, step by step -/
theorem next_le {p q : Nat} (h : p ≤ q) : p + 1 ≤ q ∨ q = p := (Nat.lt_or_eq_of_le h).imp id Eq.symm
theorem no_room {n p : Nat} (e : p = n) : (decide (p > n) || decide (n - p < 1)) = true := by
  subst e
  rw [Nat.sub_self]
  exact Bool.or_true _
theorem has_room {n p : Nat} (h : p < n) : (decide (p > n) || decide (n - p < 1)) = false := by
  rw [decide_eq_false (Nat.not_lt.mpr (Nat.le_of_lt h)), decide_eq_false (Nat.not_lt.mpr (Nat.sub_pos_of_lt h))]; rfl
theorem runFor_add : ∀ (a b : Nat) (m : M), m.runFor (a + b) = (m.runFor a).runFor b
  | 0, b, m => by simp [M.runFor]
  | a + 1, b, m => by
    rw [Nat.add_right_comm]
    show (if m.outcome.isSome then m else M.runFor (a + b) m.step) = _
    by_cases h : m.outcome.isSome
    · rw [if_pos h]
      have : m.runFor (a + 1) = m := by show (if m.outcome.isSome then m else _) = m; rw [if_pos h]
      rw [this]
      cases b with
      | zero => rfl
      | succ b => show m = (if m.outcome.isSome then m else _); rw [if_pos h]
    · rw [if_neg h]
      have : m.runFor (a + 1) = m.step.runFor a := by show (if m.outcome.isSome then m else _) = _; rw [if_neg h]
      rw [this, runFor_add a b]
theorem runFor_done {m : M} (h : m.outcome.isSome = true) (n : Nat) : m.runFor n = m := by
  cases n with
  | zero => rfl
  | succ n => show (if m.outcome.isSome then m else _) = m; rw [if_pos h]

/-- it ends in f after so many steps -/
noncomputable def Ends (n : Nat) (m f : M) : Prop := m.runFor n = f ∧ f.outcome.isSome = true
theorem Ends.step {n : Nat} {m f : M} (h : m.outcome = none) (k : Ends n m.step f) : Ends (n + 1) m f := by
  refine ⟨?_, k.2⟩
  show (if m.outcome.isSome then m else M.runFor n m.step) = f
  rw [h]; exact k.1
theorem Ends.now {m : M} (h : m.outcome.isSome = true) : Ends 0 m m := ⟨rfl, h⟩
theorem Ends.more {n k : Nat} {m f : M} (h : Ends n m f) (hk : n ≤ k) : m.runFor k = f := by
  obtain ⟨j, rfl⟩ := Nat.exists_eq_add_of_le hk
  rw [runFor_add, h.1, runFor_done h.2]

section
variable {M₀ : Model} {A : Around} {E : Value → Shared → Prop} {s : Shared}
theorem drive_ends {f : M} {Q : M → Shared → Prop} (hf : f.outcome.isSome = true) (h : Q f s) : ∀ (turns n : Nat) (m : M), Ends n m f → n ≤ 4 * turns → 1 ≤ turns → wpAny M₀ A (reDrive turns m) Q E s
  | 0, _, _, _, _, h1 => absurd h1 (by lia)
  | turns + 1, n, m, he, hn, _ => by
    unfold reDrive
    by_cases hd : (m.runFor reTurnSteps).outcome.isSome = true
    · have e : m.runFor reTurnSteps = f := by
        have h1 := runFor_add reTurnSteps n m
        rw [runFor_done hd, Nat.add_comm] at h1
        rw [← h1]
        exact he.more (by lia)
      simp only [e, hf, if_true]
      exact wpAny_pure h
    · simp only [hd, if_false, Bool.false_eq_true]
      refine wpAny_bind (wpAny_rule ?_)
      have hn4 : 4 < n := by
        rcases Nat.lt_or_ge 4 n with z | z
        · exact z
        · have := he.more (k := 4) z
          rw [show reTurnSteps = 4 from rfl, this] at hd
          exact absurd hf hd
      have e2 : Ends (n - 4) (m.runFor reTurnSteps) f := by
        refine ⟨?_, hf⟩
        rw [show reTurnSteps = 4 from rfl, ← runFor_add, show 4 + (n - 4) = n by lia]
        exact he.1
      exact drive_ends hf h turns (n - 4) _ e2 (by lia) (by lia)

theorem rules_pass (p : Nat → Bool) (g : Nat → String) (f : Nat → PUnit → Sem (ForInStep PUnit)) (hf : ∀ i u, f i u = if p i = true then (do rule (g i); pure (.yield ⟨⟩)) else pure (.yield ⟨⟩)) {Q : PUnit → Shared → Prop} (h : Q ⟨⟩ s) : ∀ l : List Nat, wpAny M₀ A (forIn l PUnit.unit f) Q E s
  | [] => by rw [List.forIn_nil]; exact wpAny_pure h
  | i :: l => by
    rw [List.forIn_cons, hf]
    split
    · exact wpAny_bind (wpAny_bind (wpAny_rule (wpAny_pure (rules_pass p g f hf h l))))
    · exact wpAny_bind (wpAny_pure (rules_pass p g f hf h l))

theorem runToEnd {m f : M} {n : Nat} {Q : Option M → Shared → Prop} (he : Ends n m f) (hn : n ≤ 2 ^ 60)
    (h : (f.outcome = some .matched ∧ Q (some f) s) ∨ (f.outcome = some .failed ∧ Q none s)) : wpAny M₀ A (reRunToEnd m) Q E s := by
  unfold reRunToEnd
  refine wpAny_bind (drive_ends he.2 ?_ _ n m he (by lia) (by decide))
  refine wpAny_bind (rules_pass (fun i => f.seen.has i) (fun i => Sre.names.getD i "") _ (fun i u => by cases f.seen.has i <;> rfl) ?_ _)
  rcases h with ⟨e, q⟩ | ⟨e, q⟩ <;> rw [e] <;> exact wpAny_pure q
end
end Yy

end

section
set_option maxRecDepth 100000
namespace Yy
open PySem PySem.Sre PySem.Builtin PySem.Builtin.Re

/-- a state of the machine: no groups, no loops -/
structure Mv where
  start : Nat
  pc : Nat
  pos : Nat
  handed : Nat
  out : Bool
  fs : List Sre.Frame
  ans : Option Bool := none
  oc : Option Sre.Outcome := none
noncomputable def mkM (C T : Array Nat) (lim lst : Nat) (seen : Seen) (v : Mv) : M :=
  { code := C, text := T, lim, start := v.start, lastStart := lst, wholeText := false, mustAdvance := false, pc := v.pc, pos := v.pos, handed := v.handed, outermost := v.out, marks := #[], lastmark := -1, lastindex := -1,
    loops := #[], inner := none, frames := v.fs, weight := v.fs.length, answer := v.ans, seen, outcome := v.oc }
noncomputable abbrev frm (w : Wait) (pc pos : Nat) (out : Bool) : Sre.Frame := { wait := w, pc, pos, outermost := out }

/-- from one state to another, whatever words were seen -/
noncomputable def Go (C T : Array Nat) (lim lst : Nat) (v v' : Mv) : Prop := v.oc = none ∧ ∀ seen, ∃ seen', (mkM C T lim lst seen v).step = mkM C T lim lst seen' v'

section
variable {C T : Array Nat} {lim lst start pc pos handed : Nat} {out : Bool} {fs : List Sre.Frame}

theorem isAt_one (m : M) : m.isAt 1 = .ok (m.pos == 0 || m.text.getD (m.pos - 1) 0 == 10) := rfl
theorem Go.lit_yes (hpc : pc < C.size) (ho : ops[C.getD pc 0]? = some .LITERAL) (hl : pos < lim) (hc : T.getD pos 0 = C.getD (pc + 1) 0) : Go C T lim lst ⟨start, pc, pos, handed, out, fs, none, none⟩ ⟨start, pc + 2, pos + 1, handed, out, fs, none, none⟩ := by
  refine ⟨rfl, fun seen => ⟨seen.add (C.getD pc 0), ?_⟩⟩
  simp only [M.step, mkM, Option.isSome_none, Bool.false_eq_true, if_false, hpc, if_true, M.exec, M.word, Nat.add_zero, ho, accepts, itemWidth, hc, beq_self_eq_true]
  rw [if_neg (by lia)]
theorem Go.lit_end (hpc : pc < C.size) (ho : ops[C.getD pc 0]? = some .LITERAL) (hl : lim ≤ pos) : Go C T lim lst ⟨start, pc, pos, handed, out, fs, none, none⟩ ⟨start, pc, pos, handed, out, fs, some false, none⟩ := by
  refine ⟨rfl, fun seen => ⟨seen.add (C.getD pc 0), ?_⟩⟩
  simp only [M.step, mkM, Option.isSome_none, Bool.false_eq_true, if_false, hpc, if_true, M.exec, M.word, Nat.add_zero, ho, ge_iff_le, hl]
  rfl
theorem Go.lit_no (hpc : pc < C.size) (ho : ops[C.getD pc 0]? = some .LITERAL) (hl : pos < lim) (hc : T.getD pos 0 ≠ C.getD (pc + 1) 0) : Go C T lim lst ⟨start, pc, pos, handed, out, fs, none, none⟩ ⟨start, pc, pos, handed, out, fs, some false, none⟩ := by
  refine ⟨rfl, fun seen => ⟨seen.add (C.getD pc 0), ?_⟩⟩
  have hb : (T.getD pos 0 == C.getD (pc + 1) 0) = false := by simpa using hc
  simp only [M.step, mkM, Option.isSome_none, Bool.false_eq_true, if_false, hpc, if_true, M.exec, M.word, Nat.add_zero, ho, accepts, hb]
  rw [if_neg (by lia)]; rfl
theorem Go.jump (hpc : pc < C.size) (ho : ops[C.getD pc 0]? = some .JUMP) {pc' : Nat} (e : pc' = pc + 1 + C.getD (pc + 1) 0) : Go C T lim lst ⟨start, pc, pos, handed, out, fs, none, none⟩ ⟨start, pc', pos, handed, out, fs, none, none⟩ := by
  subst e
  refine ⟨rfl, fun seen => ⟨seen.add (C.getD pc 0), ?_⟩⟩
  simp only [M.step, mkM, Option.isSome_none, Bool.false_eq_true, if_false, hpc, if_true, M.exec, M.word, Nat.add_zero, ho]
theorem Go.success (hpc : pc < C.size) (ho : ops[C.getD pc 0]? = some .SUCCESS) : Go C T lim lst ⟨start, pc, pos, handed, out, fs, none, none⟩ ⟨start, pc, pos, pos, out, fs, some true, none⟩ := by
  refine ⟨rfl, fun seen => ⟨seen.add (C.getD pc 0), ?_⟩⟩
  simp only [M.step, mkM, Option.isSome_none, Bool.false_eq_true, if_false, hpc, if_true, M.exec, M.word, Nat.add_zero, ho, Bool.false_and, Bool.or_self, Bool.and_false]
  rfl
theorem Go.atLine {b : Bool} (hpc : pc < C.size) (ho : ops[C.getD pc 0]? = some .AT) (h1 : C.getD (pc + 1) 0 = 1) (hb : b = (pos == 0 || T.getD (pos - 1) 0 == 10)) :
    Go C T lim lst ⟨start, pc, pos, handed, out, fs, none, none⟩ (if b then ⟨start, pc + 2, pos, handed, out, fs, none, none⟩ else ⟨start, pc, pos, handed, out, fs, some false, none⟩) := by
  subst hb
  refine ⟨rfl, fun seen => ⟨(seen.add (C.getD pc 0)).add 44, ?_⟩⟩
  simp only [M.step, mkM, Option.isSome_none, Bool.false_eq_true, if_false, hpc, if_true, M.exec, M.word, Nat.add_zero, ho, h1, isAt_one]
  cases (pos == 0 || T.getD (pos - 1) 0 == 10) <;> rfl
theorem Go.branch (hpc : pc < C.size) (ho : ops[C.getD pc 0]? = some .BRANCH) (hw : fs.length ≤ 1000) (ha : (C.getD (pc + 1) 0 == 0) = false) :
    Go C T lim lst ⟨start, pc, pos, handed, out, fs, none, none⟩ ⟨start, pc + 2, pos, pos, out, frm .nextBranch (pc + 1) pos out :: fs, none, none⟩ := by
  refine ⟨rfl, fun seen => ⟨seen.add (C.getD pc 0), ?_⟩⟩
  simp only [M.step, mkM, Option.isSome_none, Bool.false_eq_true, if_false, hpc, if_true, M.exec, M.word, Nat.add_zero, ho, M.alternative, ha, M.keep, M.attempt, M.frame]
  rw [if_neg (by show ¬ (fs.length + 1 + 0 > 16777216); lia)]
  rfl
/-- an alternative failed: the next one -/
theorem Go.nextAlt {p : Nat} {out' : Bool} {a : Nat} (e : a = p + C.getD p 0) (hw : fs.length ≤ 1000) (ha : (C.getD a 0 == 0) = false) {pos' handed' : Nat} {pc0 : Nat} :
    Go C T lim lst ⟨start, pc0, pos', handed, out', frm .nextBranch p pos out :: fs, some false, none⟩ ⟨start, a + 1, pos, pos, out, frm .nextBranch a pos out :: fs, none, none⟩ := by
  subst e
  refine ⟨rfl, fun seen => ⟨seen, ?_⟩⟩
  simp only [M.step, mkM, Option.isSome_none, Bool.false_eq_true, if_false, M.resume, M.putBack, M.alternative, ha, M.attempt, M.frame]
  rw [if_neg (by simp; lia)]
  simp
theorem Go.altDone {p : Nat} {out' : Bool} {pos' : Nat} {pc0 : Nat} :
    Go C T lim lst ⟨start, pc0, pos', handed, out', frm .nextBranch p pos out :: fs, some true, none⟩ ⟨start, p, pos, handed, out, fs, some true, none⟩ := by
  refine ⟨rfl, fun seen => ⟨seen, ?_⟩⟩
  simp only [M.step, mkM, Option.isSome_none, Bool.false_eq_true, if_false, M.resume, M.putBack, if_true, M.say]
  simp
theorem Go.assertNot (hpc : pc < C.size) (ho : ops[C.getD pc 0]? = some .ASSERT_NOT) (h2 : C.getD (pc + 2) 0 = 0) (hw : fs.length ≤ 1000) :
    Go C T lim lst ⟨start, pc, pos, handed, out, fs, none, none⟩ ⟨start, pc + 3, pos, pos, false, frm .lookNot pc pos out :: fs, none, none⟩ := by
  refine ⟨rfl, fun seen => ⟨seen.add (C.getD pc 0), ?_⟩⟩
  simp only [M.step, mkM, Option.isSome_none, Bool.false_eq_true, if_false, hpc, if_true, M.exec, M.word, Nat.add_zero, ho, h2, M.keep, M.attempt, M.frame, Bool.and_false, Nat.sub_zero]
  rw [if_neg (by lia), if_neg (by simp; lia)]
  rfl
theorem Go.lookNo {p : Nat} {out' : Bool} {pos' : Nat} {pc0 a : Nat} (e : a = p + 1 + C.getD (p + 1) 0) :
    Go C T lim lst ⟨start, pc0, pos', handed, out', frm .lookNot p pos out :: fs, some false, none⟩ ⟨start, a, pos, handed, out, fs, none, none⟩ := by
  subst e
  refine ⟨rfl, fun seen => ⟨seen, ?_⟩⟩
  simp only [M.step, mkM, Option.isSome_none, Bool.false_eq_true, if_false, M.resume, M.putBack, if_true, M.word]
  simp
theorem Go.startYes {p : Nat} {out' : Bool} {pos' : Nat} {pc0 : Nat} :
    Go C T lim lst ⟨start, pc0, pos', handed, out', [frm .nextStart p pos out], some true, none⟩ ⟨start, p, pos, handed, out, [], some true, none⟩ := by
  refine ⟨rfl, fun seen => ⟨seen, ?_⟩⟩
  simp only [M.step, mkM, Option.isSome_none, Bool.false_eq_true, if_false, M.resume, M.putBack, if_true, M.say]
  simp
theorem Go.fin {b : Bool} : Go C T lim lst ⟨start, pc, pos, handed, out, [], some b, none⟩ ⟨start, pc, pos, handed, out, [], some b, some (if b then .matched else .failed)⟩ := by
  refine ⟨rfl, fun seen => ⟨seen, ?_⟩⟩
  simp only [M.step, mkM, Option.isSome_none, Bool.false_eq_true, if_false]
end

theorem Go.ends {C T : Array Nat} {lim lst : Nat} {v v' : Mv} (h : Go C T lim lst v v') {n : Nat} {R : M → Prop} (k : ∀ seen, ∃ f, Ends n (mkM C T lim lst seen v') f ∧ R f) : ∀ seen, ∃ f, Ends (n + 1) (mkM C T lim lst seen v) f ∧ R f := fun seen => by
  obtain ⟨seen', e⟩ := h.2 seen
  obtain ⟨f, hf, hr⟩ := k seen'
  exact ⟨f, Ends.step h.1 (e ▸ hf), hr⟩
end Yy

end

section
set_option maxRecDepth 100000
namespace Yy
open PySem PySem.Sre PySem.Builtin PySem.Builtin.Re

section
variable {C T : Array Nat} {lim lst start pc pos handed : Nat} {out : Bool} {fs : List Sre.Frame}

theorem attemptFrom_plain (m : M) (h : m.hasFirstSet = false) (s : Nat) (b : Bool) : m.attemptFrom s b = m.attemptAt s b := by
  unfold M.attemptFrom; rw [h]; rfl
theorem Go.startNo (hF : (mkM C T lim lst {} ⟨0, 0, 0, 0, true, [], none, none⟩).hasFirstSet = false) {p p' : Nat} (e : p' = p + 1) (h : p < lst) {out' : Bool} {pos' pc0 : Nat} :
    Go C T lim lst ⟨start, pc0, pos', handed, out', [frm .nextStart pc p out], some false, none⟩ ⟨p', pc, p', p', false, [frm .nextStart pc p' false], none, none⟩ := by
  subst e
  refine ⟨rfl, fun seen => ⟨seen, ?_⟩⟩
  have hF' : ∀ m : M, m.code = C → m.hasFirstSet = false := fun m hm => by unfold M.hasFirstSet at hF ⊢; rw [hm]; exact hF
  simp only [M.step, mkM, Option.isSome_none, Bool.false_eq_true, if_false, M.resume, h, if_true]
  rw [attemptFrom_plain _ (hF' _ rfl)]
  simp only [M.attemptAt, M.attempt]
  rw [if_neg (by simp)]
  simp
theorem Go.startEnd {p : Nat} (h : ¬ p < lst) {out' : Bool} {pos' pc0 : Nat} :
    Go C T lim lst ⟨start, pc0, pos', handed, out', [frm .nextStart pc p out], some false, none⟩ ⟨start, pc, p, handed, out, [], some false, none⟩ := by
  refine ⟨rfl, fun seen => ⟨seen, ?_⟩⟩
  simp only [M.step, mkM, Option.isSome_none, Bool.false_eq_true, if_false, M.resume, h, M.say]
  simp
end

/-! ### a dot at the start of a line -/
noncomputable def c1 : Array Nat := #[14, 4, 0, 1, 1, 6, 1, 16, 46, 1]
noncomputable def Hit1 (T : Array Nat) (p : Nat) : Prop := p < T.size ∧ (p = 0 ∨ T.getD (p - 1) 0 = 10) ∧ T.getD p 0 = 46
noncomputable def Res (T : Array Nat) (Hit : Nat → Prop) (len : Nat → Nat) (p : Nat) (f : M) : Prop :=
  (f.outcome = some .failed ∧ ∀ q, p ≤ q → q < T.size → ¬ Hit q) ∨ (f.outcome = some .matched ∧ p ≤ f.start ∧ f.start < T.size ∧ Hit f.start ∧ (∀ q, p ≤ q → q < f.start → ¬ Hit q) ∧ f.handed = f.start + len f.start)

theorem find1 (T : Array Nat) : ∀ (k p : Nat) (b : Bool), p + k = T.size → ∃ n, n ≤ 6 * k + 6 ∧ ∀ seen, ∃ f, Ends n (mkM c1 T T.size T.size seen ⟨p, 5, p, p, b, [frm .nextStart 5 p b], none, none⟩) f ∧ Res T (Hit1 T) (fun _ => 1) p f := by
  intro k
  induction k with
  | zero =>
    intro p b hp
    have hp' : p = T.size := hp
    obtain ⟨bl, hbl⟩ : ∃ bl, bl = (p == 0 || T.getD (p - 1) 0 == 10) := ⟨_, rfl⟩
    have fin0 : ∀ (v : Mv), (∃ pc pos, v = ⟨p, pc, pos, p, b, [frm .nextStart 5 p b], some false, none⟩) → ∀ seen, ∃ f, Ends 2 (mkM c1 T T.size T.size seen v) f ∧ Res T (Hit1 T) (fun _ => 1) p f := by
      rintro v ⟨pc, pos, rfl⟩
      refine Go.ends (Go.startEnd (Nat.not_lt.mpr (Nat.le_of_eq hp'.symm))) (Go.ends Go.fin fun seen => ⟨_, Ends.now rfl, .inl ⟨rfl, fun q h1 h2 => absurd h2 (Nat.not_lt.mpr (hp' ▸ h1))⟩⟩)
    cases bl with
    | false => exact ⟨3, by decide, Go.ends (Go.atLine (b := false) (by decide) rfl rfl hbl) (fin0 _ ⟨_, _, rfl⟩)⟩
    | true => exact ⟨4, by decide, Go.ends (Go.atLine (b := true) (by decide) rfl rfl hbl) (Go.ends (Go.lit_end (by decide) rfl (Nat.le_of_eq hp'.symm)) (fin0 _ ⟨_, _, rfl⟩))⟩
  | succ k ih =>
    intro p b hp
    obtain ⟨bl, hbl⟩ : ∃ bl, bl = (p == 0 || T.getD (p - 1) 0 == 10) := ⟨_, rfl⟩
    have hlt : p < T.size := hp ▸ Nat.lt_add_of_pos_right (Nat.succ_pos k)
    obtain ⟨n, hn, hr⟩ := ih (p + 1) false ((Nat.add_right_comm p 1 k).trans hp)
    have next : ¬ Hit1 T p → ∀ (v : Mv), (∃ pc pos o, v = ⟨p, pc, pos, p, o, [frm .nextStart 5 p b], some false, none⟩) → ∀ seen, ∃ f, Ends (n + 1) (mkM c1 T T.size T.size seen v) f ∧ Res T (Hit1 T) (fun _ => 1) p f := by
      rintro hno v ⟨pc, pos, o, rfl⟩
      refine Go.ends (Go.startNo rfl rfl hlt) fun seen => ?_
      obtain ⟨f, hf, r⟩ := hr seen
      refine ⟨f, hf, ?_⟩
      rcases r with ⟨r1, r2⟩ | ⟨r1, r2, r3, r4, r5, r6⟩
      · exact .inl ⟨r1, fun q h1 h2 => (next_le h1).elim (fun h => r2 q h h2) (fun h => h ▸ hno)⟩
      · exact .inr ⟨r1, Nat.le_of_succ_le r2, r3, r4, fun q h1 h2 => (next_le h1).elim (fun h => r5 q h h2) (fun h => h ▸ hno), r6⟩
    cases bl with
    | false =>
      refine ⟨n + 2, Nat.le_trans (Nat.add_le_add_right hn 2) (Nat.add_le_add_left (by decide) (6 * k + 6)), Go.ends (Go.atLine (b := false) (by decide) rfl rfl hbl) (next (fun h => ?_) _ ⟨_, _, _, rfl⟩)⟩
      have h3 : (p == 0 || T.getD (p - 1) 0 == 10) = true := by
        rcases h.2.1 with e | e
        · rw [e]; rfl
        · rw [e]; simp
      rw [← hbl] at h3; cases h3
    | true =>
      by_cases hc : T.getD p 0 = 46
      · refine ⟨5, Nat.le_trans (by decide : 5 ≤ 6) (Nat.le_add_left 6 _), Go.ends (Go.atLine (b := true) (by decide) rfl rfl hbl) (Go.ends (Go.lit_yes (by decide) rfl hlt hc) (Go.ends (Go.success (by decide) rfl) (Go.ends Go.startYes (Go.ends Go.fin fun seen => ⟨_, Ends.now rfl, .inr ⟨rfl, Nat.le_refl _, hlt, ⟨hlt, ?_, hc⟩, fun q h1 h2 => absurd h1 (by show ¬ _ ≤ _; exact Nat.not_le.mpr h2), rfl⟩⟩))))⟩
        rcases (Bool.or_eq_true _ _).mp hbl.symm with e | e
        · exact .inl (beq_iff_eq.mp e)
        · exact .inr (beq_iff_eq.mp e)
      · refine ⟨n + 3, Nat.le_trans (Nat.add_le_add_right hn 3) (Nat.add_le_add_left (by decide) (6 * k + 6)), Go.ends (Go.atLine (b := true) (by decide) rfl rfl hbl) (Go.ends (Go.lit_no (by decide) rfl hlt hc) (next (fun h => hc h.2.2) _ ⟨_, _, _, rfl⟩))⟩

theorem search1 (T : Array Nat) (p : Nat) (hp : p ≤ T.size) : ∃ n f, n ≤ 6 * T.size + 6 ∧ Ends n (forSearch c1 T 0 p T.size false) f ∧ Res T (Hit1 T) (fun _ => 1) p f := by
  rcases Nat.eq_or_lt_of_le hp with e | h
  · have e1 : forSearch c1 T 0 p T.size false = mkM c1 T T.size 0 (({} : Seen).add 14) ⟨p, 5, p, p, true, [], some false, none⟩ := by
      unfold forSearch
      have : (decide (p > T.size) || decide (T.size - p < 1)) = true := no_room e
      simp only [show (header c1) = (1, 5) by rfl, this, if_true]
      rfl
    obtain ⟨f, hf, r⟩ := Go.ends (C := c1) (T := T) (lim := T.size) (lst := 0) (v := ⟨p, 5, p, p, true, [], some false, none⟩) (R := Res T (Hit1 T) (fun _ => 1) p) Go.fin (fun seen => ⟨_, Ends.now rfl, .inl ⟨rfl, fun q h1 h2 => absurd h2 (Nat.not_lt.mpr (e ▸ h1))⟩⟩) (({} : Seen).add 14)
    exact ⟨1, f, Nat.le_trans (by decide : 1 ≤ 6) (Nat.le_add_left 6 _), e1 ▸ hf, r⟩
  · obtain ⟨n, hn, hr⟩ := find1 T (T.size - p) p true (Nat.add_sub_of_le hp)
    have e1 : forSearch c1 T 0 p T.size false = mkM c1 T T.size T.size (({} : Seen).add 14) ⟨p, 5, p, p, true, [frm .nextStart 5 p true], none, none⟩ := by
      unfold forSearch
      have : (decide (p > T.size) || decide (T.size - p < 1)) = false := has_room h
      simp only [show (header c1) = (1, 5) by rfl, this, Bool.false_eq_true, if_false]
      rfl
    obtain ⟨f, hf, r⟩ := hr (({} : Seen).add 14)
    exact ⟨n, f, Nat.le_trans hn (Nat.add_le_add_right (Nat.mul_le_mul_left 6 (Nat.sub_le _ _)) 6), e1 ▸ hf, r⟩
end Yy

end

section
set_option maxRecDepth 100000
namespace Yy
open PySem PySem.Sre PySem.Builtin PySem.Builtin.Re

/-! ### an end of a line -/
noncomputable def c2 : Array Nat := #[14, 9, 4, 1, 2, 16, 10, 16, 13, 0, 7, 7, 16, 13, 16, 10, 15, 18, 5, 16, 10, 15, 13, 11, 16, 13, 5, 5, 0, 16, 10, 1, 15, 2, 0, 1]
noncomputable def Hit2 (T : Array Nat) (p : Nat) : Prop := p < T.size ∧ (T.getD p 0 = 10 ∨ T.getD p 0 = 13)
noncomputable def len2 (T : Array Nat) (p : Nat) : Nat := if T.getD p 0 = 13 ∧ p + 1 < T.size ∧ T.getD (p + 1) 0 = 10 then 2 else 1

theorem inSet2 (c : Nat) (seen : Seen) : ∃ sn, inSet c2 c c2.size 5 true seen = .ok (decide (c = 10 ∨ c = 13), sn) := by
  by_cases h1 : c = 10
  · subst h1; exact ⟨_, rfl⟩
  · by_cases h2 : c = 13
    · subst h2; exact ⟨_, rfl⟩
    · refine ⟨((seen.add 16).add 16).add 0, ?_⟩
      have e1 : (c == 10) = false := by simpa using h1
      have e2 : (c == 13) = false := by simpa using h2
      have e3 : decide (c = 10 ∨ c = 13) = false := by simp [h1, h2]
      rw [e3]
      show (if c == 10 then _ else if c == 13 then _ else _) = _
      rw [e1, e2]; rfl

theorem admitted2 (T : Array Nat) (m : M) (hc : m.code = c2) (ht : m.text = T) (hl : m.lim = T.size) : ∀ (fuel s : Nat) (seen : Seen), T.size < fuel + s →
    (∃ sn, m.admitted fuel s seen = .ok (none, sn) ∧ ∀ q, s ≤ q → q < T.size → ¬ Hit2 T q) ∨ (∃ sn p, m.admitted fuel s seen = .ok (some p, sn) ∧ s ≤ p ∧ Hit2 T p ∧ ∀ q, s ≤ q → q < p → ¬ Hit2 T q)
  | 0, s, seen, h => .inl ⟨seen, rfl, fun q h1 h2 => absurd h2 (Nat.not_lt.mpr (Nat.le_trans (Nat.le_of_lt (Nat.zero_add s ▸ h)) h1))⟩
  | fuel + 1, s, seen, h => by
    by_cases hs : s ≥ m.lim
    · refine .inl ⟨seen, ?_, fun q h1 h2 => absurd h2 (Nat.not_lt.mpr (Nat.le_trans (hl ▸ hs) h1))⟩
      show (if s ≥ m.lim then _ else _) = _
      rw [if_pos hs]
    · obtain ⟨sn, e⟩ := inSet2 (T.getD s 0) seen
      have e1 : m.admitted (fuel + 1) s seen = if decide (T.getD s 0 = 10 ∨ T.getD s 0 = 13) = true then (Except.ok (some s, sn) : Except String (Option Nat × Seen)) else m.admitted fuel (s + 1) sn := by
        show (if s ≥ m.lim then _ else match inSet m.code (m.text.getD s 0) m.code.size 5 true seen with
          | Except.ok (true, seen) => (Except.ok (some s, seen) : Except String (Option Nat × Seen))
          | Except.ok (false, seen) => m.admitted fuel (s + 1) seen
          | Except.error why => Except.error why) = _
        rw [if_neg hs, hc, ht, e]
        cases decide (T.getD s 0 = 10 ∨ T.getD s 0 = 13) <;> rfl
      by_cases hd : T.getD s 0 = 10 ∨ T.getD s 0 = 13
      · refine .inr ⟨sn, s, ?_, Nat.le_refl _, ⟨hl ▸ Nat.not_le.mp hs, hd⟩, fun q h1 h2 => absurd h2 (Nat.not_lt.mpr h1)⟩
        rw [e1, if_pos (decide_eq_true hd)]
      · rw [e1, if_neg (by simpa using hd)]
        have hno : ¬ Hit2 T s := fun x => hd x.2
        rcases admitted2 T m hc ht hl fuel (s + 1) sn (by rw [Nat.add_comm s 1, ← Nat.add_assoc]; exact h) with ⟨sn', a, b⟩ | ⟨sn', p, a, b, c, d⟩
        · exact .inl ⟨sn', a, fun q h1 h2 => (next_le h1).elim (fun z => b q z h2) fun z => z ▸ hno⟩
        · exact .inr ⟨sn', p, a, Nat.le_of_succ_le b, c, fun q h1 h2 => (next_le h1).elim (fun z => d q z h2) fun z => z ▸ hno⟩

theorem match2 (T : Array Nat) (s : Nat) (h : Hit2 T s) : ∃ n, n ≤ 30 ∧ ∀ seen, ∃ f, Ends n (mkM c2 T T.size T.size seen ⟨s, 10, s, s, true, [frm .nextStart 10 s true], none, none⟩) f ∧ (f.outcome = some .matched ∧ f.start = s ∧ f.handed = s + len2 T s) := by
  obtain ⟨hlt, hc⟩ := h
  have tail' : ∀ (k b p : Nat), k = len2 T s → ∀ seen, ∃ f, Ends 4 (mkM c2 T T.size T.size seen ⟨s, 35, s + k, b, true, [frm .nextBranch p s true, frm .nextStart 10 s true], none, none⟩) f ∧ (f.outcome = some .matched ∧ f.start = s ∧ f.handed = s + len2 T s) := fun k b p hk => by
    have g1 : Go c2 T T.size T.size ⟨s, 35, s + k, b, true, [frm .nextBranch p s true, frm .nextStart 10 s true], none, none⟩ ⟨s, 35, s + k, s + k, true, [frm .nextBranch p s true, frm .nextStart 10 s true], some true, none⟩ := Go.success (by decide) (by rfl)
    have g2 : Go c2 T T.size T.size ⟨s, 35, s + k, s + k, true, [frm .nextBranch p s true, frm .nextStart 10 s true], some true, none⟩ ⟨s, p, s, s + k, true, [frm .nextStart 10 s true], some true, none⟩ := Go.altDone
    have g3 : Go c2 T T.size T.size ⟨s, p, s, s + k, true, [frm .nextStart 10 s true], some true, none⟩ ⟨s, 10, s, s + k, true, [], some true, none⟩ := Go.startYes
    have g4 : Go c2 T T.size T.size ⟨s, 10, s, s + k, true, [], some true, none⟩ ⟨s, 10, s, s + k, true, [], some true, some .matched⟩ := Go.fin (b := true)
    refine g1.ends (g2.ends (g3.ends (g4.ends fun seen => ⟨_, Ends.now (by rfl), by rfl, by rfl, ?_⟩)))
    rw [← hk]; rfl
  let ns : Sre.Frame := frm .nextStart 10 s true
  let nb (p : Nat) : Sre.Frame := frm .nextBranch p s true
  have w7 : (c2.getD 11 0 == 0) = false := by decide
  have w18 : (c2.getD 18 0 == 0) = false := by decide
  have w23 : (c2.getD 23 0 == 0) = false := by decide
  have o10 : ops[c2.getD 10 0]? = some .BRANCH := by rfl
  have o12 : ops[c2.getD 12 0]? = some .LITERAL := by rfl
  have o14 : ops[c2.getD 14 0]? = some .LITERAL := by rfl
  have o16 : ops[c2.getD 16 0]? = some .JUMP := by rfl
  have o19 : ops[c2.getD 19 0]? = some .LITERAL := by rfl
  have o21 : ops[c2.getD 21 0]? = some .JUMP := by rfl
  have o24 : ops[c2.getD 24 0]? = some .LITERAL := by rfl
  have o26 : ops[c2.getD 26 0]? = some .ASSERT_NOT := by rfl
  have o29 : ops[c2.getD 29 0]? = some .LITERAL := by rfl
  have o32 : ops[c2.getD 32 0]? = some .JUMP := by rfl
  have x13 : c2.getD 13 0 = 13 := by decide
  have x15 : c2.getD 15 0 = 10 := by decide
  have x20 : c2.getD 20 0 = 10 := by decide
  have x25 : c2.getD 25 0 = 13 := by decide
  have x30 : c2.getD 30 0 = 10 := by decide
  have g0 : Go c2 T T.size T.size ⟨s, 10, s, s, true, [ns], none, none⟩ ⟨s, 12, s, s, true, [nb 11, ns], none, none⟩ := Go.branch (by decide) o10 (by simp) w7
  have g18 : ∀ pc pos h o, Go c2 T T.size T.size ⟨s, pc, pos, h, o, [nb 11, ns], some false, none⟩ ⟨s, 19, s, s, true, [nb 18, ns], none, none⟩ := fun pc pos h o => Go.nextAlt (a := 18) (handed' := 0) (by decide) (by simp) w18
  have g23 : ∀ pc pos h o, Go c2 T T.size T.size ⟨s, pc, pos, h, o, [nb 18, ns], some false, none⟩ ⟨s, 24, s, s, true, [nb 23, ns], none, none⟩ := fun pc pos h o => Go.nextAlt (a := 23) (handed' := 0) (by decide) (by simp) w23
  have j21 : ∀ h, Go c2 T T.size T.size ⟨s, 21, s + 1, h, true, [nb 18, ns], none, none⟩ ⟨s, 35, s + 1, h, true, [nb 18, ns], none, none⟩ := fun h => Go.jump (pc' := 35) (by decide) o21 (by decide)
  have j16 : ∀ h, Go c2 T T.size T.size ⟨s, 16, s + 2, h, true, [nb 11, ns], none, none⟩ ⟨s, 35, s + 2, h, true, [nb 11, ns], none, none⟩ := fun h => Go.jump (pc' := 35) (by decide) o16 (by decide)
  have j32 : ∀ h, Go c2 T T.size T.size ⟨s, 32, s + 1, h, true, [nb 23, ns], none, none⟩ ⟨s, 35, s + 1, h, true, [nb 23, ns], none, none⟩ := fun h => Go.jump (pc' := 35) (by decide) o32 (by decide)
  rcases hc with hc | hc
  · have hk : 1 = len2 T s := by unfold len2; rw [if_neg fun z => by rw [hc] at z; exact absurd z.1 (by decide)]
    have a1 : Go c2 T T.size T.size ⟨s, 12, s, s, true, [nb 11, ns], none, none⟩ ⟨s, 12, s, s, true, [nb 11, ns], some false, none⟩ := Go.lit_no (by decide) o12 hlt (by rw [x13, hc]; decide)
    have a2 : Go c2 T T.size T.size ⟨s, 19, s, s, true, [nb 18, ns], none, none⟩ ⟨s, 21, s + 1, s, true, [nb 18, ns], none, none⟩ := Go.lit_yes (by decide) o19 hlt (by rw [x20, hc])
    exact ⟨9, by decide, g0.ends (a1.ends ((g18 _ _ _ _).ends (a2.ends ((j21 _).ends (tail' 1 _ _ hk)))))⟩
  · have a1 : Go c2 T T.size T.size ⟨s, 12, s, s, true, [nb 11, ns], none, none⟩ ⟨s, 14, s + 1, s, true, [nb 11, ns], none, none⟩ := Go.lit_yes (by decide) o12 hlt (by rw [x13, hc])
    by_cases hn : s + 1 < T.size ∧ T.getD (s + 1) 0 = 10
    · have hk : 2 = len2 T s := by unfold len2; rw [if_pos ⟨hc, hn⟩]
      have a2 : Go c2 T T.size T.size ⟨s, 14, s + 1, s, true, [nb 11, ns], none, none⟩ ⟨s, 16, s + 2, s, true, [nb 11, ns], none, none⟩ := Go.lit_yes (by decide) o14 hn.1 (by rw [x15, hn.2])
      exact ⟨8, by decide, g0.ends (a1.ends (a2.ends ((j16 _).ends (tail' 2 _ _ hk))))⟩
    · have hk : 1 = len2 T s := by unfold len2; rw [if_neg fun z => hn z.2]
      have no10 : ∀ (pc h : Nat) (o : Bool) (fs : List Sre.Frame), pc < c2.size → ops[c2.getD pc 0]? = some .LITERAL → c2.getD (pc + 1) 0 = 10 → Go c2 T T.size T.size ⟨s, pc, s + 1, h, o, fs, none, none⟩ ⟨s, pc, s + 1, h, o, fs, some false, none⟩ := by
        intro pc h o fs h1 h2 h3
        by_cases he : s + 1 < T.size
        · exact Go.lit_no h1 h2 he (by rw [h3]; exact fun z => hn ⟨he, z⟩)
        · exact Go.lit_end h1 h2 (Nat.not_lt.mp he)
      have b1 := no10 14 s true [nb 11, ns] (by decide) o14 x15
      have b2 : Go c2 T T.size T.size ⟨s, 19, s, s, true, [nb 18, ns], none, none⟩ ⟨s, 19, s, s, true, [nb 18, ns], some false, none⟩ := Go.lit_no (by decide) o19 hlt (by rw [x20, hc]; decide)
      have b3 : Go c2 T T.size T.size ⟨s, 24, s, s, true, [nb 23, ns], none, none⟩ ⟨s, 26, s + 1, s, true, [nb 23, ns], none, none⟩ := Go.lit_yes (by decide) o24 hlt (by rw [x25, hc])
      have b4 : Go c2 T T.size T.size ⟨s, 26, s + 1, s, true, [nb 23, ns], none, none⟩ ⟨s, 29, s + 1, s + 1, false, [frm .lookNot 26 (s + 1) true, nb 23, ns], none, none⟩ := Go.assertNot (by decide) o26 (by decide) (by simp)
      have b5 := no10 29 (s + 1) false [frm .lookNot 26 (s + 1) true, nb 23, ns] (by decide) o29 x30
      have b6 : Go c2 T T.size T.size ⟨s, 29, s + 1, s + 1, false, [frm .lookNot 26 (s + 1) true, nb 23, ns], some false, none⟩ ⟨s, 32, s + 1, s + 1, true, [nb 23, ns], none, none⟩ := Go.lookNo (a := 32) (by decide)
      exact ⟨15, by decide, g0.ends (a1.ends (b1.ends ((g18 _ _ _ _).ends (b2.ends ((g23 _ _ _ _).ends (b3.ends (b4.ends (b5.ends (b6.ends ((j32 _).ends (tail' 1 _ _ hk)))))))))))⟩

theorem search2 (T : Array Nat) (p : Nat) (hp : p ≤ T.size) : ∃ n f, n ≤ 30 ∧ Ends n (forSearch c2 T 0 p T.size false) f ∧ Res T (Hit2 T) (len2 T) p f := by
  rcases Nat.eq_or_lt_of_le hp with e | h
  · have e1 : forSearch c2 T 0 p T.size false = mkM c2 T T.size 0 (({} : Seen).add 14) ⟨p, 10, p, p, true, [], some false, none⟩ := by
      unfold forSearch
      have : (decide (p > T.size) || decide (T.size - p < 1)) = true := no_room e
      simp only [show (header c2) = (1, 10) by rfl, this, if_true]
      rfl
    obtain ⟨f, hf, r⟩ := Go.ends (C := c2) (T := T) (lim := T.size) (lst := 0) (v := ⟨p, 10, p, p, true, [], some false, none⟩) (R := Res T (Hit2 T) (len2 T) p) Go.fin (fun seen => ⟨_, Ends.now rfl, .inl ⟨rfl, fun q h1 h2 => absurd h2 (Nat.not_lt.mpr (e ▸ h1))⟩⟩) (({} : Seen).add 14)
    exact ⟨1, f, by decide, e1 ▸ hf, r⟩
  · have e1 : forSearch c2 T 0 p T.size false = M.attemptFrom (mkM c2 T T.size T.size (({} : Seen).add 14) ⟨p, 10, p, p, true, [], none, none⟩) p true := by
      unfold forSearch
      have : (decide (p > T.size) || decide (T.size - p < 1)) = false := has_room h
      simp only [show (header c2) = (1, 10) by rfl, this, Bool.false_eq_true, if_false]
      rfl
    have e2 : ∀ (r : Except String (Option Nat × Seen)), M.admitted (mkM c2 T T.size T.size (({} : Seen).add 14) ⟨p, 10, p, p, true, [], none, none⟩) (T.size + 1 - p) p (({} : Seen).add 14) = r →
        M.attemptFrom (mkM c2 T T.size T.size (({} : Seen).add 14) ⟨p, 10, p, p, true, [], none, none⟩) p true = (match r with
          | .ok (some s, seen) => { mkM c2 T T.size T.size (({} : Seen).add 14) ⟨p, 10, p, p, true, [], none, none⟩ with mustAdvance := false, seen }.attemptAt s true
          | .ok (none, seen) => { mkM c2 T T.size T.size (({} : Seen).add 14) ⟨p, 10, p, p, true, [], none, none⟩ with seen }.say false
          | .error why => (mkM c2 T T.size T.size (({} : Seen).add 14) ⟨p, 10, p, p, true, [], none, none⟩).stick why) := by
      rintro r rfl
      rfl
    rcases admitted2 T (mkM c2 T T.size T.size (({} : Seen).add 14) ⟨p, 10, p, p, true, [], none, none⟩) rfl rfl rfl (T.size + 1 - p) p (({} : Seen).add 14) (by rw [Nat.sub_add_cancel (Nat.le_succ_of_le hp)]; exact Nat.lt_succ_self _) with ⟨sn, a, b⟩ | ⟨sn, s, a, b, c, d⟩
    · have e3 := e1.trans (e2 _ a)
      obtain ⟨f, hf, r⟩ := Go.ends (C := c2) (T := T) (lim := T.size) (lst := T.size) (v := ⟨p, 10, p, p, true, [], some false, none⟩) (R := Res T (Hit2 T) (len2 T) p) Go.fin (fun seen => ⟨_, Ends.now rfl, .inl ⟨rfl, b⟩⟩) sn
      exact ⟨1, f, by decide, e3 ▸ hf, r⟩
    · have e3 := e1.trans (e2 _ a)
      have e4 : (({ mkM c2 T T.size T.size (({} : Seen).add 14) ⟨p, 10, p, p, true, [], none, none⟩ with mustAdvance := false, seen := sn } : M).attemptAt s true) = mkM c2 T T.size T.size sn ⟨s, 10, s, s, true, [frm .nextStart 10 s true], none, none⟩ := by
        unfold M.attemptAt M.attempt
        rw [if_neg (by simp [mkM])]
        rfl
      obtain ⟨n, hn, hr⟩ := match2 T s c
      obtain ⟨f, hf, r1, r2, r3⟩ := hr sn
      refine ⟨n, f, hn, ?_, .inr ⟨r1, r2 ▸ b, by rw [r2]; exact c.1, r2 ▸ c, fun q h1 h2 => d q h1 (r2 ▸ h2), by rw [r3, r2]⟩⟩
      rw [e3]
      show Ends n (({ mkM c2 T T.size T.size (({} : Seen).add 14) ⟨p, 10, p, p, true, [], none, none⟩ with mustAdvance := false, seen := sn } : M).attemptAt s true) f
      rw [e4]; exact hf
end Yy

end

section
set_option maxRecDepth 100000
namespace Yy
open PySem PySem.Builtin PySem.Builtin.Re

theorem plainAttrs_pat : PlainAttrs "re.Pattern" :=
  ⟨⟨"object.__getattribute__", by rw [typeLookup_type, builtinLookup_eq_fast]; kernel_rfl, by decide +kernel⟩, by rw [typeLookup_type, builtinLookup_eq_fast]; kernel_rfl⟩
theorem slot_pat_sub : Slot "re.Pattern" "sub" "re.Pattern.sub" :=
  .of (owner := "re.Pattern") (n := "sub") (by rw [typeLookup_type, builtinLookup_eq_fast]; kernel_rfl) (by decide +kernel) (by decide +kernel) (by decide +kernel)
    (by first | exact .inl (by decide +kernel) | exact .inr (by decide +kernel)) (by rw [isSubtype_type]; kernel_rfl)
theorem type_pat_sub : typeOf (.builtin "re.Pattern.sub") = pure (.type "method_descriptor") := by show builtinType _ = _; rw [builtinType_eq_fast]; kernel_rfl
theorem entry_pat_sub : entryFor table "re.Pattern.sub" = some Builtin.«re.Pattern.sub» := entryFor_of_tree (by kernel_rfl)
theorem entry_pat_loop : entryFor table "re.Pattern.sub.loop" = some Builtin.«re.Pattern.sub.loop» := entryFor_of_tree (by kernel_rfl)
theorem plain_pat_loop : plainId "re.Pattern.sub.loop" = true := by decide +kernel
theorem args_pat_sub (a b c : Value) : argsOk "re.Pattern.sub" ⟨[a, b, c], []⟩ := by unfold argsOk; kernel_rfl
theorem meth_sub : MethS "re.Pattern" "sub" "re.Pattern.sub" := ⟨plainAttrs_pat, slot_pat_sub, type_pat_sub⟩
end Yy

end

section
set_option maxRecDepth 100000
namespace Yy
open PySem PySem.Builtin PySem.Builtin.Re

/-- a compiled pattern stands at a, its code is C, it has no groups -/
noncomputable def PatAt (h : Heap) (a : Addr) (C : Array Nat) : Prop :=
  ∃ o fs T oT items n, h.get? a = some o ∧ o.data = .fields fs ∧ reRawNat (fs.getD 2 .none) = 0 ∧ fs.getD 5 .none = .ref T ∧ reRawNat (fs.getD 6 .none) = 0 ∧ h.get? T = some oT ∧ oT.data = .seq items n ∧ (items.map reRawOf).map (·.toNat) = C
theorem PatAt.keeps {h h' : Heap} {a : Addr} {C : Array Nat} (x : PatAt h a C) (k : ∀ b o, h.get? b = some o → h'.get? b = some o) : PatAt h' a C :=
  by
    obtain ⟨o, fs, T, oT, items, n, h1, h2, h3, h4, h5, h6, h7, h8⟩ := x
    exact ⟨o, fs, T, oT, items, n, k _ _ h1, h2, h3, h4, h5, k _ _ h6, h7, h8⟩

section
variable {M : Model} {A : Around} {E : Value → Shared → Prop} {s : Shared}
theorem wpAny_fieldsOf {a : Addr} {o : Obj} {fs : Array Value} {Q : Array Value → Shared → Prop} (ho : s.heap.get? a = some o) (hd : o.data = .fields fs) (h : Q fs s) : wpAny M A (PySem.fieldsOf (.ref a)) Q E s := by
  unfold PySem.fieldsOf
  refine wpAny_bind (wpAny_load ho ?_)
  rw [hd]; exact wpAny_pure h
theorem wholeTarget {a : Addr} {C : Array Nat} {x : Str} {u : Tok} {Q : ReTarget → Shared → Prop} (hp : PatAt s.heap a C) (h : Q { pattern := .ref a, string := .str x u, code := C, text := x.cps, kind := 0, groups := 0, pos := 0, lim := x.cps.size } s) :
    wpAny M A (reWholeTarget (.ref a) (.str x u)) Q E s := by
  obtain ⟨o, fs, T, oT, items, n, h1, h2, h3, h4, h5, h6, h7, h8⟩ := hp
  unfold reWholeTarget
  refine wpAny_bind (wpAny_fieldsOf h1 h2 ?_)
  refine wpAny_bind (wpAny_of_eq (a := (x.cps, 0)) rfl ?_)
  simp only [h5, h4, h3]
  refine wpAny_bind (wpAny_of_eq (a := ()) rfl ?_)
  unfold reRawItems
  refine wpAny_bind (wpAny_bind (wpAny_seqItems h6 h7 (wpAny_pure ?_)))
  refine wpAny_pure ?_
  rw [Option.getD_some, h8]
  exact h
end

theorem pat_sub_tree (a : Addr) (r x : Str) (t u : Tok) (hr : r.cps.contains 92 = false) : Builtin.«re.Pattern.sub» ⟨[.ref a, .str r t, .str x u], []⟩ = (do
    let _ ← holding [.str r t] (reWholeTarget (.ref a) (.str x u))
    let l ← newList []
    again (.builtin "re.Pattern.sub.loop" ⟨[.ref a, .str x u, .str r t, rawInt 0, rawInt 0, rawInt 0, rawInt 0, rawInt 0, .bool false, l, .bool false], []⟩)) := by
  have e1 : specialOf (.str r t) (Str.ofString "__call__") = pure none := by
    unfold specialOf
    show (typeOf (.str r t) >>= fun T => typeLookup T (Str.ofString "__call__")) = _
    have : typeOf (.str r t) = pure (.type "str") := rfl
    rw [this, pure_bind, typeLookup_type, builtinLookup_eq_fast]
    kernel_rfl
  show reSubstitute "re.Pattern.sub" "sub" false ⟨[.ref a, .str r t, .str x u], []⟩ = _
  delta reSubstitute
  have e2 : reNamed "re.Pattern.sub" "sub" ["repl", "string", "count"] 2 [.str r t, .str x u] [] = pure [some (.str r t), some (.str x u), none] := rfl
  simp only [e2, pure_bind]
  rw [show specialOf (.str r t) "__call__" = pure none from e1]
  simp only [pure_bind, Option.isSome_none, Bool.false_eq_true, if_false]
  rw [show asStr? (.str r t) = pure (some r) from rfl]
  simp only [pure_bind, hr, Bool.not_false, if_true]
  rfl
end Yy

end

section
set_option maxRecDepth 100000
namespace Yy
open PySem PySem.Builtin PySem.Builtin.Re

/-- what a search by C finds, and what is made of the text from a place on -/
structure SubOk (C : Array Nat) (l : List Nat) (r : List Nat) (G : Nat → List Nat) : Prop where
  find : ∀ p, p ≤ l.length → ∃ n f, n ≤ 2 ^ 50 ∧ Ends n (Sre.forSearch C l.toArray 0 p l.length false) f ∧
    ((f.outcome = some .failed ∧ G p = l.drop p) ∨ (f.outcome = some .matched ∧ p ≤ f.start ∧ f.start < f.handed ∧ f.handed ≤ l.length ∧ G p = (l.drop p).take (f.start - p) ++ (r ++ G f.handed)))

noncomputable def loopArgs (a : Addr) (x : Str) (u : Tok) (r : Str) (t : Tok) (n e : Nat) (L : Addr) : Args :=
  ⟨[.ref a, .str x u, .str r t, rawInt 0, rawInt 0, rawInt (n : Int), rawInt (e : Int), rawInt (e : Int), .bool false, .ref L, .bool false], []⟩

theorem loop_tree (a : Addr) (x : Str) (u : Tok) (r : Str) (t : Tok) (n e : Nat) (L : Addr) : Builtin.«re.Pattern.sub.loop» (loopArgs a x u r t n e L) = (do
    let tt ← reWholeTarget (.ref a) (.str x u)
    match ← reNextFound tt e false with
    | some m =>
      if e < m.start then updateSeq L (·.push (← reSlice tt.text tt.kind e m.start))
      updateSeq L (·.push (.str r t))
      again (.builtin "re.Pattern.sub.loop" ⟨[.ref a, .str x u, .str r t, rawInt 0, rawInt 0, rawInt ((n : Int) + 1), rawInt m.handed, rawInt m.handed, .bool (m.handed == m.start), .ref L, .bool false], []⟩)
    | none =>
      if e < tt.lim then updateSeq L (·.push (← reSlice tt.text tt.kind e tt.lim))
      let joiner ← reSlice tt.text tt.kind 0 0
      let text ← if ((← seqItems? (.ref L)).getD #[]).isEmpty then pure joiner
        else call (.builtin (if tt.kind == 0 then "str.join" else "bytes.join")) [joiner, .ref L]
      ret text) := by
  unfold Builtin.«re.Pattern.sub.loop» loopArgs
  rfl

noncomputable def flat (ps : List (Str × Tok)) : List Nat := (ps.map fun p => p.1.cps.toList).flatten
theorem St.app (a b : List Nat) : St a ++ St b = St (a ++ b) := by
  show (⟨a.toArray ++ b.toArray⟩ : Str) = _
  simp
theorem join_flat : ∀ (ts : List Str), Txt.join ⟨#[]⟩ ts = St ((ts.map fun t => t.cps.toList).flatten) := by
  intro ts
  show Str.glued _ _ = _
  rw [StrLaws.glued_eq_join]
  induction ts with
  | nil => rfl
  | cons x r ih =>
    cases r with
    | nil => show x = _; rw [List.map_cons, List.map_nil, List.flatten_cons, List.flatten_nil, List.append_nil]
    | cons y r =>
      show x ++ (⟨#[]⟩ : Str) ++ PySem.Str.join ⟨#[]⟩ (y :: r) = _
      rw [ih]
      cases x with
      | mk cx =>
        show (⟨cx ++ #[] ++ (((y :: r).map fun t => t.cps.toList).flatten).toArray⟩ : Str) = ⟨_⟩
        congr 1
        simp
theorem reSlice_str (t : Array Nat) (b e : Nat) : reSlice t 0 b e = mkStr ⟨t.extract b e⟩ := rfl
theorem wpAny_pushL {M : Model} {A : Around} {E : Value → Shared → Prop} {s : Shared} {L : Addr} {ps : List (Str × Tok)} {n0 : Nat} {x : Str} {t : Tok} {Q : Unit → Shared → Prop} (hL : s.heap.get? L = some (lstO (strValues ps) n0)) (hz : ps.length ≤ 2 ^ 20)
    (h : ∀ h' n1, h'.get? L = some (lstO (strValues (ps ++ [(x, t)])) n1) → (∀ b, b ≠ L → h'.get? b = s.heap.get? b) → Q () { s with heap := h' }) : wpAny M A (updateSeq L (·.push (.str x t))) Q E s := by
  have sz : sizeLine = 2 ^ 24 := rfl
  have e1 : (strValues ps).toArray.size = ps.length := by simp [strValues]
  refine wpAny_updateSeq hL rfl ?_ (by rw [e1]; lia) (by rw [Array.size_push, e1]; lia)
  have e2 := PyProof.Rows.get?_update_seq (c := "list") hL (fun xs => xs.push (.str x t))
  have e3 : (strValues ps).toArray.push (.str x t) = (strValues (ps ++ [(x, t)])).toArray := by simp [strValues]
  rw [e3] at e2
  exact h _ _ e2 fun b hb => Heap.get?_update_other _ _ (Ne.symm hb)

theorem flat_snoc (ps : List (Str × Tok)) (x : Str) (t : Tok) : flat (ps ++ [(x, t)]) = flat ps ++ x.cps.toList := by simp [flat]
theorem flat_len {ps : List (Str × Tok)} (h : ∀ p ∈ ps, 1 ≤ p.1.cps.size) : ps.length ≤ (flat ps).length := by
  induction ps with
  | nil => simp
  | cons p ps ih =>
    have h1 := h p (.head _)
    have h2 := ih fun q hq => h q (.tail _ hq)
    simp only [flat, List.map_cons, List.flatten_cons, List.length_append, List.length_cons, Array.length_toList] at h2 ⊢
    lia
theorem ext_toList (l : List Nat) (b e : Nat) : (l.toArray.extract b e).toList = (l.drop b).take (e - b) := by simp

section
variable {prog : Program} {w : World} {A : Around}
theorem sub_loop {C : Array Nat} {l r : List Nat} {G : Nat → List Nat} (S : SubOk C l r G) (hr : r ≠ []) (hG : (G 0).length ≤ 2 ^ 18) (hl : l.length ≤ 2 ^ 18) (hrl : r.length ≤ 2 ^ 10) {a L : Addr} {t u : Tok} {R : Result → Shared → Prop} {s : Shared} :
    ∀ (k e : Nat), e + k = l.length → ∀ (n : Nat) (ps : List (Str × Tok)) (n0 : Nat) (h : Heap) (tk : Nat), (∀ p ∈ ps, 1 ≤ p.1.cps.size) → flat ps ++ G e = G 0 → h.get? L = some (lstO (strValues ps) n0) → PatAt h a C → (∀ h' : Heap, (∀ b, b ≠ L → h'.get? b = h.get? b) → PatAt h' a C) →
      (∀ h' tk' t', (∀ b, b ≠ L → h'.get? b = h.get? b) → R (.ok (.ret (.str (St (G 0)) t'))) { s with heap := h', toks := tk' }) →
      wpAny (model prog w) A.in1 (Builtin.«re.Pattern.sub.loop» (loopArgs a (St l) u (St r) t n e L)) (fun fin s' => match fin with | .done f => R (.ok f) s' | .again c' => c'.quiet = true ∧ codeAny (model prog w) A c' R s') (fun x s' => R (.error x) s') { s with heap := h, toks := tk } := by
  intro k
  induction k using Nat.strongRecOn with
  | ind k ih =>
    intro e he n ps n0 h tk hps hf hL hP hPk hR
    have sz : sizeLine = 2 ^ 24 := rfl
    rw [loop_tree]
    refine wpAny_bind (wholeTarget (s := { s with heap := h, toks := tk }) hP ?_)
    obtain ⟨N, f, hN, hE, hf2⟩ := S.find e (he ▸ Nat.le_add_right _ _)
    have hls : l.toArray.size = l.length := by simp
    have hlen : (flat ps).length + (G e).length = (G 0).length := by rw [← hf, List.length_append]
    have hpl := flat_len hps
    -- a slice is pushed, if it is not empty
    have push : ∀ (q : Nat) (next : Sem PySem.Fin), e ≤ q → q ≤ l.length → (l.drop e).take (q - e) <+: G e →
        (∀ ps' n1 h' tk', (∀ p ∈ ps', 1 ≤ p.1.cps.size) → flat ps' = flat ps ++ (l.drop e).take (q - e) → h'.get? L = some (lstO (strValues ps') n1) → (∀ b, b ≠ L → h'.get? b = h.get? b) →
          wpAny (model prog w) A.in1 next (fun fin s' => match fin with | .done f => R (.ok f) s' | .again c' => c'.quiet = true ∧ codeAny (model prog w) A c' R s') (fun x s' => R (.error x) s') { s with heap := h', toks := tk' }) →
        wpAny (model prog w) A.in1 (do
          if e < q then updateSeq L (·.push (← reSlice l.toArray 0 e q))
          next) (fun fin s' => match fin with | .done f => R (.ok f) s' | .again c' => c'.quiet = true ∧ codeAny (model prog w) A c' R s') (fun x s' => R (.error x) s') { s with heap := h, toks := tk } := by
      intro q next h1 h2 hpre hk
      by_cases hq : e < q
      · simp only [hq, if_true]
        rw [reSlice_str]
        refine wpAny_bind (wpAny_mkStr ?_ ?_)
        · refine wpAny_bind (wpAny_pushL (s := { s with heap := h, toks := tk + 1 }) hL (by lia) fun h' n1 g1 g2 => ?_)
          refine hk _ n1 h' (tk + 1) (fun p hp => ?_) (by rw [flat_snoc, ext_toList]) g1 g2
          rcases List.mem_append.mp hp with hp | hp
          · exact hps p hp
          · rw [List.mem_singleton.mp hp]
            show 1 ≤ (l.toArray.extract e q).size
            rw [Array.size_extract, hls, Nat.min_eq_left h2]; exact Nat.sub_pos_of_lt hq
        · show (l.toArray.extract e q).size ≤ _
          rw [Array.size_extract, hls, Nat.min_eq_left h2, sz]; exact Nat.le_trans (Nat.sub_le _ _) (Nat.le_trans h2 (Nat.le_trans hl (by decide)))
      · have : q = e := Nat.le_antisymm (Nat.not_lt.mp hq) h1
        subst this
        simp only [Nat.lt_irrefl, if_false]
        exact hk ps n0 h tk hps (by simp) hL (fun _ _ => rfl)
    have hsearch : reNextFound { pattern := .ref a, string := .str (St l) u, code := C, text := l.toArray, kind := 0, groups := 0, pos := 0, lim := l.toArray.size } e false = reRunToEnd (Sre.forSearch C l.toArray 0 e l.length false) := by
      unfold reNextFound; rw [hls]
    show wpAny _ _ (reNextFound { pattern := .ref a, string := .str (St l) u, code := C, text := l.toArray, kind := 0, groups := 0, pos := 0, lim := l.toArray.size } e false >>= _) _ _ _
    rw [hsearch]
    rcases hf2 with ⟨o1, o2⟩ | ⟨o1, o2, o3, o4, o5⟩
    · refine wpAny_bind (runToEnd hE (Nat.le_trans hN (by decide)) (.inr ⟨o1, ?_⟩))
      have e0 : (l.drop e).take (l.length - e) = G e := by rw [o2, List.take_of_length_le (by simp)]
      show wpAny _ _ (do
          if e < l.toArray.size then updateSeq L (·.push (← reSlice l.toArray 0 e l.toArray.size))
          let joiner ← reSlice l.toArray 0 0 0
          let text ← if ((← seqItems? (.ref L)).getD #[]).isEmpty then pure joiner else call (.builtin "str.join") [joiner, .ref L]
          ret text) _ _ _
      rw [hls]
      refine push l.length _ (he ▸ Nat.le_add_right _ _) (Nat.le_refl _) (e0 ▸ List.prefix_refl _) fun ps' n1 h' tk' p1 p2 p3 p4 => ?_
      rw [e0] at p2
      have p5 : flat ps' = G 0 := p2.trans hf
      rw [reSlice_str]
      have ex : l.toArray.extract 0 0 = #[] := by simp
      rw [ex]
      refine wpAny_bind (wpAny_mkStr ?_ (Nat.zero_le _))
      refine wpAny_bind (wpAny_seqItems (s := { s with heap := h', toks := tk' + 1 }) p3 rfl ?_)
      cases ps' with
      | nil =>
        have : G 0 = [] := by rw [← p5]; rfl
        have := hR h' (tk' + 1) tk' p4
        simp only [strValues, List.map_nil, Option.getD_some]
        refine wpAny_bind (wpAny_pure (wpAny_pure ?_))
        rw [show G 0 = [] from by rw [← p5]; rfl] at this
        exact this
      | cons p ps' =>
        have hne : ((some (strValues (p :: ps')).toArray).getD #[]).isEmpty = false := by simp [strValues]
        simp only [hne, Bool.false_eq_true, if_false]
        have hw : (((p :: ps').map (·.1)).map (·.length)).sum = (flat (p :: ps')).length := by
          unfold flat
          rw [List.length_flatten, List.map_map, List.map_map]
          congr 1
        have hc := flat_len p1
        refine wpAny_bind (SC.join (s := { s with heap := h', toks := tk' + 1 }) ⟨_, p3, rfl, _, rfl⟩ rfl (PyProof.Rows.joinOk_of_weight (by rw [hw, List.length_map]; rw [p5] at hc ⊢; lia) (Nat.zero_le 16)) fun t' tk2 => wpAny_pure ?_)
        have e5 : Txt.join ⟨#[]⟩ ((p :: ps').map (·.1)) = St (G 0) := by
          rw [join_flat, ← p5]; unfold flat; rw [List.map_map]; rfl
        rw [e5]
        exact hR h' tk2 t' p4
    · refine wpAny_bind (runToEnd hE (Nat.le_trans hN (by decide)) (.inl ⟨o1, ?_⟩))
      have hpre : (l.drop e).take (f.start - e) <+: G e := by rw [o5]; exact List.prefix_append _ _
      show wpAny _ _ (do
          if e < f.start then updateSeq L (·.push (← reSlice l.toArray 0 e f.start))
          updateSeq L (·.push (.str (St r) t))
          again (.builtin "re.Pattern.sub.loop" ⟨[.ref a, .str (St l) u, .str (St r) t, rawInt 0, rawInt 0, rawInt ((n : Int) + 1), rawInt f.handed, rawInt f.handed, .bool (f.handed == f.start), .ref L, .bool false], []⟩)) _ _ _
      refine push f.start _ o2 (Nat.le_of_lt (Nat.lt_of_lt_of_le o3 o4)) hpre fun ps' n1 h' tk' p1 p2 p3 p4 => ?_
      have hfl : (flat ps').length ≤ (G 0).length := by
        rw [p2, List.length_append]
        exact Nat.le_trans (Nat.add_le_add_left hpre.length_le _) (Nat.le_of_eq hlen)
      have hc := flat_len p1
      refine wpAny_bind (wpAny_pushL (s := { s with heap := h', toks := tk' }) p3 (by lia) fun h2 n2 q1 q2 => wpAny_pure ?_)
      have hne : (f.handed == f.start) = false := beq_eq_false_iff_ne.mpr (Nat.ne_of_gt o3)
      rw [hne, show (n : Int) + 1 = ((n + 1 : Nat) : Int) from rfl]
      refine ⟨plainId_quiet plain_pat_loop _, codeAny_builtin entry_pat_loop ?_⟩
      rw [Around.under_plainId plain_pat_loop _]
      have hall : ∀ b, b ≠ L → h2.get? b = h.get? b := fun b hb => (q2 b hb).trans (p4 b hb)
      refine ih (l.length - f.handed) (by rw [← Nat.sub_eq_of_eq_add' he.symm]; exact Nat.sub_lt_sub_left (Nat.lt_of_le_of_lt o2 (Nat.lt_of_lt_of_le o3 o4)) (Nat.lt_of_le_of_lt o2 o3)) f.handed (Nat.add_sub_of_le o4) (n + 1) (ps' ++ [(St r, t)]) n2 h2 tk' (fun p hp => ?_) ?_ q1 (hPk h2 hall) (fun h3 h3k => hPk h3 fun b hb => (h3k b hb).trans (hall b hb)) fun h3 tk3 t3 h3k => hR h3 tk3 t3 fun b hb => (h3k b hb).trans (hall b hb)
      · rcases List.mem_append.mp hp with hp | hp
        · exact p1 p hp
        · rw [List.mem_singleton.mp hp]
          show 1 ≤ r.toArray.size
          cases r with
          | nil => exact absurd rfl hr
          | cons _ _ => simp
      · rw [flat_snoc, p2, ← hf, o5]
        simp
end
end Yy

end

section
set_option maxRecDepth 100000
namespace Yy
open PySem PySem.W PySem.Calls PyProof.Rows

section
variable {prog : Program} {w : World} {h₀ : Heap}
variable {A : Around} {env : Env} {m : Vars} {led : Led} {Q : Led → MV → Prop}

theorem BinQ.addT {Q : MV → Prop} {a b : List Nat} (h : Q (.str (St (a ++ b)))) (hz : a.length + b.length ≤ 2 ^ 20) : BinQ .Add (.str (St a)) (.str (St b)) Q := by
  have sz : sizeLine = 2 ^ 24 := rfl
  refine BinQ.addS ?_ (by rw [St.len, St.len]; lia)
  rw [St.app]; exact h
theorem f_join {sep : Str} {ls : List (List Nat)} (hs : sep = ⟨#[]⟩) (hz : ls.flatten.length + ls.length ≤ 2 ^ 20) (k : Q led (.str (St ls.flatten))) : Cl prog w h₀ A (fled env m led) (.bi "str.join") [.str sep, .lst (ms (ls.map St))] [] (Ret env m Q) := by
  subst hs
  have e1 : (List.map (fun t : Str => t.cps.toList) (ls.map St)).flatten = ls.flatten := by
    rw [List.map_map]
    congr 1
    conv => rhs; rw [← List.map_id ls]
    exact List.map_congr_left fun a _ => by simp
  have e2 : (List.map Str.length (ls.map St)).sum = ls.flatten.length := by
    rw [List.length_flatten, List.map_map]
    exact congrArg List.sum (List.map_congr_left fun a _ => St.len)
  refine b_join (joinOk_of_weight (by rw [e2, List.length_map]; lia) (by decide)) ⟨led, rfl, ?_⟩
  rw [join_flat, e1]; exact k
theorem CmpQ.neT {Q : MV → Prop} {a b : List Nat} (h : Q (.bool (decide (a ≠ b)))) : CmpQ .NotEq (.str (St a)) (.str (St b)) Q := by
  refine CmpQ.neS ?_
  have : decide (St a ≠ St b) = decide (a ≠ b) := by rw [Bool.eq_iff_iff]; simp
  rw [this]; exact h
theorem ms_get {ss : List Str} {i : Nat} {x : Str} (h : ss[i]? = some x) : (ms ss)[i]? = some (.str x) := by
  unfold ms; rw [List.getElem?_map, h]; rfl
/-- a list that stands still, its first k -/
theorem SlQ.lTo {xs : List MV} {k : Nat} (hz : xs.length ≤ 2 ^ 20) (h : Q led (.lst (xs.take k))) : SlQ led (.lst xs) Option.none (some (k : Int)) Q := by
  have sz : sizeLine = 2 ^ 24 := rfl
  refine ⟨by lia, ?_⟩
  have e : (xs.drop 0).take (clipAt xs.length (k : Int) - 0) = xs.take k := by
    rw [clipAt_nat, Nat.sub_zero, List.drop_zero]
    rcases Nat.le_total k xs.length with h | h
    · rw [Nat.min_eq_left h]
    · rw [Nat.min_eq_right h, List.take_of_length_le (Nat.le_refl _), List.take_of_length_le h]
  show Q led (.lst ((xs.drop 0).take (clipAt xs.length (k : Int) - 0)))
  rw [e]; exact h
/-- a slice of what is made there and then -/
theorem E1.sliceT {value : Expr} {lower upper : Option Expr} {p pos}
    (h : E1 prog w h₀ A env m led value (fun l x => BdQ env m prog w h₀ A l lower (fun l1 lo => BdQ env m prog w h₀ A l1 upper (fun l2 hi => SlQ l2 x lo hi Q)))) : E1 prog w h₀ A env m led (.Subscript value (.Slice lower upper Option.none p) pos) Q := E1.slice h
end
end Yy

end

section
set_option maxRecDepth 100000
namespace Yy
open PySem PySem.W PySem.Calls PyProof.Rows

section
variable {prog : Program} {w : World} {h₀ : Heap}
variable {A : Around} {env : Env} {m : Vars} {led : Led} {Q : Led → MV → Prop} {QT : Led → Bool → Prop} {Qn : Vars → Led → Prop} {Qr : Led → MV → Prop}

/-! ### range(a, b) -/
end
end Yy

end

section
set_option maxRecDepth 100000
namespace Yy
open PySem PySem.W PySem.Calls PyProof.Rows
section
variable {prog : Program} {w : World} {h₀ : Heap}
variable {A : Around} {env : Env} {m : Vars} {led : Led} {Q : Led → MV → Prop} {QT : Led → Bool → Prop} {Qn : Vars → Led → Prop} {Qr : Led → MV → Prop}
/-- arguments that are not given: the defaults lie in a tuple, those of the names alone in a dict -/
theorem BindsTo.of_dkd {s : Shared} {fd : FuncData} {args : Args} {binds : List (Str × Value)} {T D : Addr} {o oD : Obj} {items : Array Value} {n : Nat} {p : Option Value}
    {k : Option (Array Value) → Sem (List (Str × Value))} {K : Obj → Sem (List (Str × Value))} (hd : fd.defaults = .ref T) (ho : s.heap.get? T = some o) (hs : o.data = .seq items n) (hD : s.heap.get? D = some oD)
    (h1 : bindArgs fd args = seqItems? fd.defaults >>= k) (h2 : k (some items) = Sem.load D p K) (h3 : K oD = Pure.pure binds) : BindsTo s fd args binds :=
  fun _ _ _ _ hq => by
    rw [h1, hd]
    refine wpAny_bind (wpAny_seqItems ho hs ?_)
    rw [h2, show Sem.load D p K = loadPart D p >>= K from rfl]
    refine wpAny_bind (wpAny_loadPart hD ?_)
    rw [h3]
    exact wpAny_pure hq
theorem Binds.of_dkd {fd : FuncData} {args dargs : List MV} (names : List Str) {T D : Addr} {o oD : Obj} {items : Array Value} {n : Nat} (dv : List Value) (hdv : ∀ B, VRs B dv dargs) (hd : fd.defaults = .ref T) (ho : h₀.get? T = some o) (hs : o.data = .seq items n) (hD : h₀.get? D = some oD)
    (h : ∀ vs : List Value, vs.length = args.length → ∃ k p K, bindArgs fd ⟨vs, []⟩ = seqItems? fd.defaults >>= k ∧ k (some items) = Sem.load D p K ∧ K oD = Pure.pure (names.zip (vs ++ dv))) : Binds h₀ fd args [] (names.zip (args ++ dargs)) := fun B s vs ks hle rs rk => by
  cases rk
  obtain ⟨k, p, K, e1, e2, e3⟩ := h vs rs.length
  exact ⟨names.zip (vs ++ dv), BindsTo.of_dkd hd (hle _ _ ho) hs (hle _ _ hD) e1 e2 e3, (rs.append (hdv B)).zip⟩

theorem takeF {α : Type} (sel : List (Option α)) {i : Nat} {o : Option α} (h : sel[i]? = some o) : (sel.take (i + 1)).filterMap id = (sel.take i).filterMap id ++ o.toList := by
  rw [List.take_add_one, h, List.filterMap_append]
  cases o <;> rfl
/-- a comprehension with one test -/
theorem CompR.toF {cenv : Env} {E : Led} {t : Expr} {c elt : Expr} {D : Addr} {QL : Led → List MV → Prop} {items : List MV} (sel : List (Option MV)) (hl : sel.length = items.length) (hz : items.length ≤ 2 ^ 20)
    (step : ∀ (i : Nat) y acc, items[i]? = some y → As prog w h₀ A cenv [] ((D, .list acc) :: led) t y fun m' l' => T1 prog w h₀ A cenv m' l' c fun l2 b => (b = true → E1 prog w h₀ A cenv m' l2 elt fun l3 x => l3 = (D, .list acc) :: led ∧ sel[i]? = some (some x)) ∧ (b = false → l2 = (D, .list acc) :: led ∧ sel[i]? = some Option.none))
    (fin : QL led (sel.filterMap id)) (hE : ∀ e ∈ E, e ∈ led := by intro _ h; cases h) : CompR prog w h₀ A cenv t [c] elt D E QL items [] [] led := by
  have sz : sizeLine = 2 ^ 24 := rfl
  have main : ∀ (rest : List MV) (i : Nat) (m : Vars), i + rest.length = items.length → items.drop i = rest → CompR prog w h₀ A cenv t [c] elt D E QL rest ((sel.take i).filterMap id) m led := by
    intro rest
    induction rest with
    | nil =>
      intro i m hi _
      have : i = items.length := by simpa using hi
      subst this
      show (∀ e ∈ E, e ∈ led) ∧ QL led ((sel.take items.length).filterMap id)
      refine ⟨hE, ?_⟩
      rw [List.take_of_length_le (Nat.le_of_eq hl)]; exact fin
    | cons y ys ih =>
      intro i m hi hd
      have hlt : i < items.length := by rw [← hi]; exact Nat.lt_add_of_pos_right (Nat.succ_pos _)
      have hy : items[i]? = some y := by
        have := congrArg (·[0]?) hd
        simpa using this
      have hd' : items.drop (i + 1) = ys := by
        have := congrArg (List.drop 1) hd
        simpa using this
      have ih' := fun m => ih (i + 1) m (by rw [← hi, List.length_cons, Nat.add_right_comm, Nat.add_assoc]) hd'
      have hac : ((sel.take i).filterMap id).length ≤ sizeLine := by
        refine Nat.le_trans (List.length_filterMap_le _ _) ?_
        rw [List.length_take, sz]
        exact Nat.le_trans (Nat.min_le_left _ _) (Nat.le_trans (Nat.le_of_lt hlt) (Nat.le_trans hz (by decide)))
      refine ⟨hE, As.has (Has.nil : Has m []) ?_⟩
      intro B v rv sh K H k
      refine step i y _ hy B v rv sh K H fun B' h' tk l r le H' p => k B' h' tk l r le H' ?_
      obtain ⟨m', l', e, q⟩ := p
      refine ⟨m', l', e, q.mono fun l2 b hb => ⟨fun e => ⟨hac, (hb.1 e).mono fun l3 x ⟨e3, hx⟩ => ⟨led, e3, ?_⟩⟩, fun e => ⟨led, (hb.2 e).1, ?_⟩⟩⟩
      · have := ih' m'
        rw [takeF sel hx] at this; exact this
      · have := ih' m'
        rw [takeF sel (hb.2 e).2, Option.toList_none, List.append_nil] at this; exact this
  have := main items 0 [] (Nat.zero_add _) rfl
  rwa [List.take_zero] at this

/-! ### a list within a list stands still -/
/-- what was said as an address is said as the list that lies there -/
inductive FrzL (a : Addr) (xs : List MV) : List MV → List MV → Prop
  | nil : FrzL a xs [] []
  | keep {y : MV} {ys zs : List MV} : FrzL a xs ys zs → FrzL a xs (y :: ys) (y :: zs)
  | here {ys zs : List MV} : FrzL a xs ys zs → FrzL a xs (.obj a :: ys) (.lst xs :: zs)
theorem FrzL.sound {B : Fz} {a : Addr} {xs ys zs : List MV} (r : VR B (.ref a) (.lst xs)) (h : FrzL a xs ys zs) : ∀ {vs : List Value}, VRs B vs ys → VRs B vs zs := by
  induction h with
  | nil => exact fun q => q
  | keep _ ih =>
    intro vs w
    obtain ⟨v, vs', rfl, p, q2⟩ := w.cons_
    exact .cons p (ih q2)
  | here _ ih =>
    intro vs w
    obtain ⟨v, vs', rfl, p, q2⟩ := w.cons_
    cases p.obj_
    exact .cons r (ih q2)
theorem Hp.frzIn {B : Fz} {h : Heap} {a q : Addr} {xs ys zs : List MV} {l l1 l2 : Led} (H : Hp h₀ B h l) (hd : DelL l a xs l1) (hs : SetL l1 q ys zs l2) (hf : FrzL a xs ys zs) : ∃ B', Le B B' ∧ Hp h₀ B' h l2 := by
  obtain ⟨pre, post, rfl, rfl⟩ := hd.split
  obtain ⟨B2, le2, H2, r⟩ := (H.perm List.perm_middle).freeze
  obtain ⟨p1, p2, e, rfl⟩ := hs.split
  rw [e] at H2
  obtain ⟨vs, n, e0, rs⟩ := (H2.own (q, .list ys) (List.mem_append_right _ List.mem_cons_self)).2
  exact ⟨B2, le2, H2.turn (fun _ _ _ e => e) ⟨vs, n, e0, hf.sound r rs⟩⟩
theorem Cl.frzIn {f args kw} (h : Cl prog w h₀ A led f args kw (fun l x => ∃ a xs q ys zs l1 l2, DelL l a xs l1 ∧ SetL l1 q ys zs l2 ∧ FrzL a xs ys zs ∧ Q l2 x)) : Cl prog w h₀ A led f args kw Q :=
  ⟨h.1, fun B fv vs ks rf rs rk s K H k => by
    refine h.2 B fv vs ks rf rs rk s _ H ?_
    rintro B1 h1 tk1 _ v le1 H1 ⟨x, rv, a, xs, q, ys, zs, l1, l2, hd, hs, hf, qq⟩
    obtain ⟨B2, le2, H2⟩ := H1.frzIn hd hs hf
    exact k B2 h1 tk1 _ _ (le1.trans le2) H2 ⟨x, rv.mono le2, qq⟩⟩
end
end Yy

end

section
set_option maxRecDepth 100000
namespace Yy
open PySem PySem.W PySem.Calls PyProof.Rows
section
variable {prog : Program} {w : World} {h₀ : Heap}
variable {A : Around} {env : Env} {m : Vars} {led : Led} {Q : Led → MV → Prop} {QT : Led → Bool → Prop} {Qn : Vars → Led → Prop} {Qr : Led → MV → Prop}
theorem CompR.to1 {cenv : Env} {t : Expr} {elt : Expr} {D : Addr} {QL : Led → List MV → Prop} {items : List MV} {c : Addr} {F : Led} (xs : List MV) (hl : xs.length = items.length) (hz : items.length ≤ 2 ^ 20)
    (step : ∀ (i : Nat) y acc s, items[i]? = some y → As prog w h₀ A cenv [] ((D, .list acc) :: (c, .cell s) :: F) t y fun m' l' => E1 prog w h₀ A cenv m' l' elt fun l3 x => l3 = (D, .list acc) :: (c, .cell (some y)) :: F ∧ xs[i]? = some x)
    (fin : ∀ s, QL ((c, .cell s) :: F) xs) : CompR prog w h₀ A cenv t [] elt D [] QL items [] [] ((c, .cell none) :: F) :=
  CompR.toC (E := []) (fun s => (c, .cell s) :: F) xs hl hz (fun i y acc s hy => by
    intro B v rv sh K H k
    refine step i y acc s hy B v rv sh K H fun B' h' tk l r le H' p => k B' h' tk l r le H' ?_
    obtain ⟨m', l', e, q⟩ := p
    exact ⟨m', l', e, q.mono fun l3 x h => ⟨some y, h⟩⟩) none fin (fun _ _ h => nomatch h)
theorem CompR.rng {cenv : Env} {t : Expr} {elt : Expr} {D : Addr} {QL : Led → List MV → Prop} {n : Nat} (xs : List MV) (hl : xs.length = n) (hz : n ≤ 2 ^ 20)
    (step : ∀ (i : Nat) acc, i < n → As prog w h₀ A cenv [] ((D, .list acc) :: led) t (.int (i : Int)) fun m' l' => E1 prog w h₀ A cenv m' l' elt fun l3 x => l3 = (D, .list acc) :: led ∧ xs[i]? = some x)
    (fin : QL led xs) : CompR prog w h₀ A cenv t [] elt D [] QL (rngItems (n : Int)) [] [] led :=
  CompR.to xs (by rw [rngItems_len]; exact hl) (by rw [rngItems_len]; exact hz) (fun i y acc hy => by
    obtain ⟨rfl, hi⟩ := rngItems_get hy
    exact step i acc (Int.ofNat_lt.mp hi)) fin
theorem CompR.rng1 {cenv : Env} {t : Expr} {elt : Expr} {D : Addr} {QL : Led → List MV → Prop} {n : Nat} {c : Addr} {F : Led} (xs : List MV) (hl : xs.length = n) (hz : n ≤ 2 ^ 20)
    (step : ∀ (i : Nat) acc s, i < n → As prog w h₀ A cenv [] ((D, .list acc) :: (c, .cell s) :: F) t (.int (i : Int)) fun m' l' => E1 prog w h₀ A cenv m' l' elt fun l3 x => l3 = (D, .list acc) :: (c, .cell (some (.int (i : Int)))) :: F ∧ xs[i]? = some x)
    (fin : ∀ s, QL ((c, .cell s) :: F) xs) : CompR prog w h₀ A cenv t [] elt D [] QL (rngItems (n : Int)) [] [] ((c, .cell none) :: F) :=
  CompR.to1 xs (by rw [rngItems_len]; exact hl) (by rw [rngItems_len]; exact hz) (fun i y acc s hy => by
    obtain ⟨rfl, hi⟩ := rngItems_get hy
    exact step i acc s (Int.ofNat_lt.mp hi)) fin
theorem T1.toB {e : Expr} (p : Prop) [Decidable p] (h : T1 prog w h₀ A env m led e (fun l x => l = led ∧ x = decide p)) (k : QT led (decide p)) : T1 prog w h₀ A env m led e QT :=
  h.mono fun l x ⟨e1, e2⟩ => by rw [e1, e2]; exact k
end
end Yy

end

section
set_option maxRecDepth 100000
namespace Yy
open PySem PySem.W PySem.Calls PyProof.Rows PySem.StrLaws Builtin Builtin.Str

/-! ### a text of rows, cut at the ends of its rows -/
noncomputable abbrev crlf : Str := St [13, 10]
noncomputable def lines (rs : List (List Nat)) : List Nat := (rs.map (· ++ [13, 10])).flatten
noncomputable def cutsOf : Nat → List (List Nat) → List Nat
  | _, [] => []
  | i, r :: rs => (i + r.length) :: cutsOf (i + r.length + 2) rs
theorem ext_list (T : List Nat) (i j : Nat) : (St T).cps.extract i j = ((T.drop i).take (j - i)).toArray := by
  show T.toArray.extract i j = _
  rw [← Array.toList_inj]; simp
theorem subAt_eq (T : List Nat) (i : Nat) : subAt (St T) crlf i = decide ((T.drop i).take 2 = [13, 10]) := by
  unfold subAt
  rw [ext_list, show i + crlf.length - i = 2 from Nat.add_sub_cancel_left ..]
  show (((T.drop i).take 2).toArray == [13, 10].toArray) = _
  rw [Bool.eq_iff_iff]; simp
theorem room {L i k m : Nat} (h : L - i = m) (hk : k + 1 ≤ m) : i + (k + 1) ≤ L :=
  Nat.add_le_of_le_sub' (Nat.le_of_lt (Nat.lt_of_sub_pos (h ▸ Nat.lt_of_lt_of_le (Nat.succ_pos k) hk))) (h ▸ hk)
theorem occ_row (T : List Nat) (lim : Nat) : ∀ (r : List Nat) (i n : Nat) (acc : Array Nat) (free : Nat) (R : List Nat), T.drop i = r ++ 13 :: 10 :: R → (∀ c ∈ r, c ≠ 13) → free ≤ i → acc.size < lim →
    forIn (List.range' i (r.length + (n + 2))) (acc, free) (occBody (St T) crlf T.length lim) = forIn (List.range' (i + r.length + 2) n) (acc.push (i + r.length), i + r.length + 2) (occBody (St T) crlf T.length lim) := by
  intro r
  induction r with
  | nil =>
    intro i n acc free R hd _ hf hs
    have hl : i + 2 ≤ T.length := by
      have := congrArg List.length hd
      rw [List.length_drop] at this
      exact room (k := 1) this (Nat.succ_le_succ (Nat.succ_le_succ (Nat.zero_le _)))
    rw [List.length_nil, Nat.zero_add, List.range'_succ, List.range'_succ, List.forIn_cons]
    have e1 : occBody (St T) crlf T.length lim i (acc, free) = pure (ForInStep.yield (acc.push i, i + 2)) := by
      unfold occBody
      rw [if_pos ⟨⟨⟨hs, hf⟩, hl⟩, by rw [subAt_eq, hd]; rfl⟩]; rfl
    have e2 : occBody (St T) crlf T.length lim (i + 1) (acc.push i, i + 2) = pure (ForInStep.yield (acc.push i, i + 2)) := by
      unfold occBody
      rw [if_neg fun h => Nat.not_succ_le_self _ h.1.1.2]
    rw [e1]
    simp only [pure_bind]
    rw [List.forIn_cons, e2]
    rfl
  | cons c r ih =>
    intro i n acc free R hd hr hf hs
    have hd' : T.drop (i + 1) = r ++ 13 :: 10 :: R := by rw [← List.drop_drop, hd]; rfl
    rw [List.length_cons, Nat.add_right_comm, List.range'_succ, List.forIn_cons]
    have e1 : occBody (St T) crlf T.length lim i (acc, free) = pure (ForInStep.yield (acc, free)) := by
      unfold occBody
      rw [if_neg fun h => ?_]
      have h2 := h.2
      rw [subAt_eq, hd] at h2
      have h3 := of_decide_eq_true h2
      exact hr c List.mem_cons_self (by injection h3)
    rw [e1]
    simp only [pure_bind]
    rw [ih (i + 1) n acc free R hd' (fun x hx => hr x (List.mem_cons_of_mem _ hx)) (Nat.le_succ_of_le hf) hs, Nat.add_right_comm i 1, Nat.add_assoc i r.length 1]
theorem occ_rows (T : List Nat) (lim : Nat) : ∀ (rs : List (List Nat)) (i : Nat) (acc : Array Nat) (free : Nat), T.drop i = lines rs → i ≤ T.length → (∀ r ∈ rs, ∀ c ∈ r, c ≠ 13) → free ≤ i → acc.size + rs.length ≤ lim →
    (forIn (List.range' i (T.length + 1 - i)) (acc, free) (occBody (St T) crlf T.length lim) : Id _).run.fst.toList = acc.toList ++ cutsOf i rs := by
  intro rs
  induction rs with
  | nil =>
    intro i acc free hd hi _ hf _
    have hl : i = T.length := Nat.le_antisymm hi (List.drop_eq_nil_iff.mp hd)
    subst hl
    rw [Nat.add_sub_cancel_left, List.range'_succ, List.range'_zero, List.forIn_cons]
    have e1 : occBody (St T) crlf T.length lim T.length (acc, free) = pure (ForInStep.yield (acc, free)) := by
      unfold occBody
      rw [if_neg fun h => Nat.not_succ_le_self _ (Nat.le_of_succ_le h.1.2)]
    rw [e1]
    show acc.toList = acc.toList ++ []
    rw [List.append_nil]
  | cons r rs ih =>
    intro i acc free hd hi hr hf hs
    have hd1 : T.drop i = r ++ 13 :: 10 :: lines rs := by rw [hd]; simp [lines]
    have hd2 : T.drop (i + r.length + 2) = lines rs := by
      rw [Nat.add_assoc, ← List.drop_drop, hd1, ← List.drop_drop, List.drop_left' rfl]; rfl
    have hl : i + r.length + 2 ≤ T.length := by
      have := congrArg List.length hd1
      rw [List.length_drop, List.length_append] at this
      rw [Nat.add_assoc]
      exact room (k := r.length + 1) this (Nat.add_le_add_left (Nat.succ_le_succ (Nat.succ_le_succ (Nat.zero_le _))) r.length)
    have hb : r.length + 2 ≤ T.length + 1 - i := Nat.le_sub_of_add_le (by rw [Nat.add_comm (r.length + 2), ← Nat.add_assoc]; exact Nat.le_succ_of_le hl)
    have e : T.length + 1 - i = r.length + ((T.length + 1 - (i + r.length + 2)) + 2) := by rw [Nat.add_assoc i, Nat.sub_add_eq, Nat.add_left_comm, Nat.sub_add_cancel hb]
    rw [e, occ_row T lim r i _ acc free _ hd1 (hr r List.mem_cons_self) hf (Nat.lt_of_lt_of_le (Nat.lt_add_of_pos_right (Nat.succ_pos _)) hs)]
    rw [ih (i + r.length + 2) _ _ hd2 hl (fun x hx => hr x (List.mem_cons_of_mem _ hx)) (Nat.le_refl _) (by rw [Array.size_push, Nat.add_right_comm]; exact hs)]
    rw [Array.toList_push, List.append_assoc]; rfl
theorem parts_rows (T : List Nat) : ∀ (rs : List (List Nat)) (i : Nat), T.drop i = lines rs → partsFrom (St T) 2 i (cutsOf i rs) = rs.map St ++ [St []] := by
  intro rs
  induction rs with
  | nil =>
    intro i hd
    show [strSub (St T) i (St T).length] = [St []]
    unfold strSub
    rw [ext_list, hd]
    simp [lines]
  | cons r rs ih =>
    intro i hd
    have hd1 : T.drop i = r ++ 13 :: 10 :: lines rs := by rw [hd]; simp [lines]
    have hd2 : T.drop (i + r.length + 2) = lines rs := by
      rw [Nat.add_assoc, ← List.drop_drop, hd1, ← List.drop_drop, List.drop_left' rfl]; rfl
    show strSub (St T) i (i + r.length) :: partsFrom (St T) 2 (i + r.length + 2) (cutsOf (i + r.length + 2) rs) = St r :: (rs.map St ++ [St []])
    rw [ih _ hd2]
    unfold strSub
    rw [ext_list, hd1, Nat.add_sub_cancel_left, List.take_left' rfl]
theorem split_rows {rs : List (List Nat)} (hr : ∀ r ∈ rs, ∀ c ∈ r, c ≠ 13) (hne : rs ≠ []) : Txt.split (St (lines rs)) crlf = rs.map St ++ [St []] := by
  have ho : occurrences (St (lines rs)) crlf 0 (St (lines rs)).length ((St (lines rs)).length + 1) = cutsOf 0 rs := by
    rw [occ_eq, St.len, Nat.sub_zero]
    have hlen : ∀ rs : List (List Nat), rs.length ≤ (lines rs).length := by
      intro rs
      induction rs with
      | nil => exact Nat.zero_le _
      | cons r rs ih =>
        show rs.length + 1 ≤ ((r ++ [13, 10]) ++ lines rs).length
        rw [List.length_append, List.length_append, Nat.add_comm]
        exact Nat.add_le_add (Nat.le_trans (by decide : 1 ≤ 2) (Nat.le_add_left _ _)) ih
    exact occ_rows (lines rs) _ rs 0 #[] 0 rfl (Nat.zero_le _) hr (Nat.le_refl _) (by rw [show (#[] : Array Nat).size = 0 from rfl, Nat.zero_add]; exact Nat.le_succ_of_le (hlen rs))
  cases rs with
  | nil => exact absurd rfl hne
  | cons r rs =>
    have h2 : 2 ≤ (St (lines (r :: rs))).length := by
      rw [St.len]
      show 2 ≤ ((r ++ [13, 10]) ++ lines rs).length
      rw [List.length_append, List.length_append]
      exact Nat.le_trans (Nat.le_add_left _ _) (Nat.le_add_right _ _)
    have hk : ∀ x : Str, 1 ≤ PySem.Builtin.Str.strKind x := fun x => by
      unfold PySem.Builtin.Str.strKind
      split
      · decide
      · split <;> decide
    have hc : PySem.Builtin.Str.strKind crlf = 1 := by decide +kernel
    unfold Txt.split
    rw [ho, if_neg, if_neg, partsBetween_eq]
    · exact parts_rows _ _ 0 rfl
    · show ¬ (cutsOf 0 (r :: rs)).isEmpty = true
      simp [cutsOf]
    · rw [Bool.or_eq_true, decide_eq_true_eq, decide_eq_true_eq]
      rintro (h | h)
      · exact Nat.not_lt.mpr h2 h
      · rw [hc] at h; exact Nat.not_lt.mpr (hk _) h
end Yy

end

section
set_option maxRecDepth 100000
namespace Yy
open PySem PySem.W PySem.Builtin PySem.Builtin.Re

/-- every end of a line is a return and a feed; b: a return went ahead -/
noncomputable def norm : Bool → List Nat → List Nat
  | _, [] => []
  | b, c :: l => if c = 10 then (if b = true then [] else [13, 10]) ++ norm false l else if c = 13 then [13, 10] ++ norm true l else c :: norm false l
/-- a dot at the start of a line is doubled -/
noncomputable def dots : Bool → List Nat → List Nat
  | _, [] => []
  | b, c :: l => (if b = true ∧ c = 46 then [46, 46] else [c]) ++ dots (c == 10) l

theorem norm_len : ∀ b l, (norm b l).length ≤ 2 * l.length
  | _, [] => by simp [norm]
  | b, c :: l => by
    have h1 := norm_len false l
    have h2 := norm_len true l
    unfold norm
    split
    · split <;> simp <;> lia
    · split <;> simp <;> lia
theorem norm_true : ∀ l, l.head? ≠ some 10 → norm true l = norm false l
  | [], _ => rfl
  | c :: l, h => by
    have hc : ¬ c = 10 := fun e => h (by rw [e]; rfl)
    unfold norm
    rw [if_neg hc, if_neg hc]
theorem dots_len : ∀ b l, (dots b l).length ≤ 2 * l.length
  | _, [] => by simp [dots]
  | b, c :: l => by
    have := dots_len (c == 10) l
    unfold dots
    split <;> simp <;> lia

/-- the start of a line, at a place -/
noncomputable def atL (l : List Nat) (p : Nat) : Bool := p == 0 || l.getD (p - 1) 0 == 10
noncomputable def G1 (l : List Nat) (p : Nat) : List Nat := dots (atL l p) (l.drop p)
noncomputable def G2 (l : List Nat) (p : Nat) : List Nat := norm false (l.drop p)

theorem getD_arr (l : List Nat) (i : Nat) : l.toArray.getD i 0 = l.getD i 0 := by simp

theorem G1_step (l : List Nat) (p : Nat) (h : p < l.length) : G1 l p = (if atL l p = true ∧ l.getD p 0 = 46 then [46, 46] else [l.getD p 0]) ++ G1 l (p + 1) := by
  have e : l.getD p 0 = l[p] := by simp [h]
  unfold G1
  rw [List.drop_eq_getElem_cons h, dots, e]
  congr 2
  unfold atL
  have : (p + 1 == 0) = false := by simp
  rw [this, Bool.false_or, Nat.add_sub_cancel, e]
theorem G1_run (l : List Nat) : ∀ (k p : Nat), p + k ≤ l.length → (∀ q, p ≤ q → q < p + k → ¬ (atL l q = true ∧ l.getD q 0 = 46)) → G1 l p = (l.drop p).take k ++ G1 l (p + k)
  | 0, p, _, _ => by simp
  | k + 1, p, h, hn => by
    have hlt : p < l.length := Nat.lt_of_lt_of_le (Nat.lt_add_of_pos_right (Nat.succ_pos k)) h
    rw [G1_step l p hlt, if_neg (hn p (Nat.le_refl _) (Nat.lt_add_of_pos_right (Nat.succ_pos k))), G1_run l k (p + 1) (by rw [Nat.add_right_comm]; exact h) (fun q h1 h2 => hn q (Nat.le_of_succ_le h1) (by rw [Nat.add_right_comm] at h2; exact h2)), List.drop_eq_getElem_cons hlt, List.take_succ_cons, show p + 1 + k = p + (k + 1) from Nat.add_right_comm p 1 k]
    simp [hlt]
theorem G2_step (l : List Nat) (p : Nat) (h : p < l.length) (hn : ¬ (l.getD p 0 = 10 ∨ l.getD p 0 = 13)) : G2 l p = l.getD p 0 :: G2 l (p + 1) := by
  have e : l.getD p 0 = l[p] := by simp [h]
  rw [e] at hn ⊢
  unfold G2
  rw [List.drop_eq_getElem_cons h]
  generalize l[p] = c at hn ⊢
  conv => lhs; unfold norm
  rw [if_neg (fun z => hn (.inl z)), if_neg (fun z => hn (.inr z))]
theorem G2_run (l : List Nat) : ∀ (k p : Nat), p + k ≤ l.length → (∀ q, p ≤ q → q < p + k → ¬ (l.getD q 0 = 10 ∨ l.getD q 0 = 13)) → G2 l p = (l.drop p).take k ++ G2 l (p + k)
  | 0, p, _, _ => by simp
  | k + 1, p, h, hn => by
    have hlt : p < l.length := Nat.lt_of_lt_of_le (Nat.lt_add_of_pos_right (Nat.succ_pos k)) h
    rw [G2_step l p hlt (hn p (Nat.le_refl _) (Nat.lt_add_of_pos_right (Nat.succ_pos k))), G2_run l k (p + 1) (by rw [Nat.add_right_comm]; exact h) (fun q h1 h2 => hn q (Nat.le_of_succ_le h1) (by rw [Nat.add_right_comm] at h2; exact h2)), List.drop_eq_getElem_cons hlt, List.take_succ_cons, show p + 1 + k = p + (k + 1) from Nat.add_right_comm p 1 k]
    simp [hlt]
theorem G2_hit (l : List Nat) (p : Nat) (h : p < l.length) (hc : l.getD p 0 = 10 ∨ l.getD p 0 = 13) : G2 l p = [13, 10] ++ G2 l (p + len2 l.toArray p) ∧ p + len2 l.toArray p ≤ l.length := by
  have e : l.getD p 0 = l[p] := by simp [h]
  unfold len2
  rw [getD_arr, getD_arr, show l.toArray.size = l.length by simp]
  unfold G2
  by_cases h2 : l.getD p 0 = 13 ∧ p + 1 < l.length ∧ l.getD (p + 1) 0 = 10
  · rw [if_pos h2]
    obtain ⟨h3, h4, h5⟩ := h2
    have e2 : l.getD (p + 1) 0 = l[p + 1] := by simp [h4]
    refine ⟨?_, by lia⟩
    rw [List.drop_eq_getElem_cons h, List.drop_eq_getElem_cons h4, ← e, ← e2, h3, h5]
    rfl
  · rw [if_neg h2]
    refine ⟨?_, by lia⟩
    rw [List.drop_eq_getElem_cons h]
    rw [e] at hc
    conv => lhs; unfold norm
    by_cases h10 : l[p] = 10
    · rw [if_pos h10]; rfl
    · have h13 : l[p] = 13 := hc.resolve_left h10
      rw [if_neg h10, if_pos h13, norm_true]
      intro hh
      apply h2
      have h4 : p + 1 < l.length := by
        rcases Nat.lt_or_ge (p + 1) l.length with z | z
        · exact z
        · rw [List.drop_of_length_le z] at hh; cases hh
      rw [List.drop_eq_getElem_cons h4, List.head?_cons] at hh
      exact ⟨by rw [e]; exact h13, h4, by simpa [h4] using hh⟩

theorem subOk2 (l : List Nat) (hl : l.length ≤ 2 ^ 18) : SubOk c2 l [13, 10] (G2 l) where
  find := fun p hp => by
    obtain ⟨n, f, hn, he, hr⟩ := search2 l.toArray p (by simpa using hp)
    refine ⟨n, f, Nat.le_trans hn (by decide), by simpa using he, ?_⟩
    have hs : l.toArray.size = l.length := by simp
    rcases hr with ⟨h1, h2⟩ | ⟨h1, h2, h3, h4, h5, h6⟩
    · refine .inl ⟨h1, ?_⟩
      rw [G2_run l (l.length - p) p (Nat.le_of_eq (Nat.add_sub_of_le hp)) (fun q a b hc => h2 q a (by rw [hs]; exact Nat.add_sub_of_le hp ▸ b) ⟨by rw [hs]; exact Nat.add_sub_of_le hp ▸ b, by rw [getD_arr]; exact hc⟩), List.take_of_length_le (by simp), show p + (l.length - p) = l.length from Nat.add_sub_of_le hp]
      simp [G2, norm]
    · rw [hs] at h3
      have hc : l.getD f.start 0 = 10 ∨ l.getD f.start 0 = 13 := by have := h4.2; rwa [getD_arr] at this
      obtain ⟨g1, g2⟩ := G2_hit l f.start h3 hc
      have hpos : 1 ≤ len2 l.toArray f.start := by unfold len2; split <;> decide
      refine .inr ⟨h1, h2, h6 ▸ Nat.lt_add_of_pos_right hpos, h6 ▸ g2, ?_⟩
      rw [G2_run l (f.start - p) p (by rw [Nat.add_sub_of_le h2]; exact Nat.le_of_lt h3) (fun q a b hc => h5 q a (Nat.add_sub_of_le h2 ▸ b) ⟨by rw [hs]; exact Nat.lt_trans (Nat.add_sub_of_le h2 ▸ b) h3, by rw [getD_arr]; exact hc⟩), show p + (f.start - p) = f.start from Nat.add_sub_of_le h2, g1, h6]
theorem subOk1 (l : List Nat) (hl : l.length ≤ 2 ^ 18) : SubOk c1 l [46, 46] (G1 l) where
  find := fun p hp => by
    obtain ⟨n, f, hn, he, hr⟩ := search1 l.toArray p (by simpa using hp)
    have hs : l.toArray.size = l.length := by simp
    refine ⟨n, f, by lia, by simpa using he, ?_⟩
    have hit : ∀ q, q < l.length → (atL l q = true ∧ l.getD q 0 = 46) → Hit1 l.toArray q := fun q hq h => by
      refine ⟨by rw [hs]; exact hq, ?_, by rw [getD_arr]; exact h.2⟩
      have h1 := h.1
      unfold atL at h1
      rcases (Bool.or_eq_true _ _).mp h1 with e | e
      · exact .inl (beq_iff_eq.mp e)
      · exact .inr (by rw [getD_arr]; exact beq_iff_eq.mp e)
    rcases hr with ⟨h1, h2⟩ | ⟨h1, h2, h3, h4, h5, h6⟩
    skip
    · refine .inl ⟨h1, ?_⟩
      rw [G1_run l (l.length - p) p (Nat.le_of_eq (Nat.add_sub_of_le hp)) (fun q a b hc => h2 q a (by rw [hs]; exact Nat.add_sub_of_le hp ▸ b) (hit q (Nat.add_sub_of_le hp ▸ b) hc)), List.take_of_length_le (by simp), show p + (l.length - p) = l.length from Nat.add_sub_of_le hp]
      simp [G1, dots]
    · rw [hs] at h3
      have h6 : f.handed = f.start + 1 := h6
      have hc : atL l f.start = true ∧ l.getD f.start 0 = 46 := by
        obtain ⟨_, a, b⟩ := h4
        rw [getD_arr] at a b
        refine ⟨?_, b⟩
        unfold atL
        rcases a with a | a
        · rw [a]; rfl
        · rw [a]; simp
      refine .inr ⟨h1, h2, by rw [h6]; exact Nat.lt_succ_self _, by rw [h6]; exact h3, ?_⟩
      rw [G1_run l (f.start - p) p (by rw [Nat.add_sub_of_le h2]; exact Nat.le_of_lt h3) (fun q a b hc => h5 q a (Nat.add_sub_of_le h2 ▸ b) (hit q (Nat.lt_trans (Nat.add_sub_of_le h2 ▸ b) h3) hc)), show p + (f.start - p) = f.start from Nat.add_sub_of_le h2, G1_step l f.start h3, if_pos hc, h6]
end Yy

end

section
set_option maxRecDepth 100000
namespace Yy
open PySem PySem.W PySem.Calls PyProof.Rows

/-! ### the rows of law 2 -/
noncomputable def lt4 : List Nat := [97, 65, 98, 66]
noncomputable def tl5 : List (List Nat) := [[], [97], [65], [98], [46]]
noncomputable def rowS (c m : Nat) : List Nat := List.replicate (c % 2 * (1 + m)) 46 ++ (lt4.getD (c / 2 % 4) 0 :: tl5.getD (c / 8 % 5) [])
noncomputable def eol3 : List (List Nat) := [[10], [13, 10], [13]]
noncomputable def mail2 (cs : List Nat) : List Nat := (cs.map fun c => rowS c 0 ++ eol3.getD (c / 40) []).flatten ++ [13]
noncomputable def sent2 (cs : List Nat) (m : Nat) : List Nat := lines (cs.map (rowS · m)) ++ [13, 10]
/-- no end of a line, and plain -/
noncomputable def Pl (a : List Nat) : Prop := ∀ x ∈ a, (x ≠ 10 ∧ x ≠ 13) ∧ x < 128
theorem lt4_ok : ∀ k < 4, Pl [lt4.getD k 0] ∧ lt4.getD k 0 ≠ 46 := by unfold Pl; decide
theorem tl5_ok : ∀ k < 5, Pl (tl5.getD k []) := by unfold Pl; decide
theorem rowS_pl (c m : Nat) : Pl (rowS c m) := by
  intro x hx
  rcases List.mem_append.mp hx with h | h
  · rw [List.eq_of_mem_replicate h]; decide
  · rcases List.mem_cons.mp h with h | h
    · rw [h]; exact (lt4_ok _ (Nat.mod_lt _ (by decide))).1 _ List.mem_cons_self
    · exact tl5_ok _ (Nat.mod_lt _ (by decide)) _ h
theorem norm_plain : ∀ (a R : List Nat), Pl a → norm false (a ++ R) = a ++ norm false R
  | [], _, _ => rfl
  | x :: a, R, h => by
    have hx := (h x List.mem_cons_self).1
    show norm false (x :: (a ++ R)) = x :: (a ++ norm false R)
    rw [norm, if_neg hx.1, if_neg hx.2, norm_plain a R fun y hy => h y (List.mem_cons_of_mem _ hy)]
theorem norm_eol : ∀ k < 3, ∀ R : List Nat, R.head? ≠ some 10 → norm false (eol3.getD k [] ++ R) = 13 :: 10 :: norm false R := by
  intro k hk R hR
  match k, hk with
  | 0, _ => show norm false (10 :: R) = _; rw [norm, if_pos rfl]; rfl
  | 1, _ => show norm false (13 :: 10 :: R) = _; rw [norm, if_neg (by decide), if_pos rfl, norm, if_pos rfl, if_pos rfl]; rfl
  | 2, _ => show norm false (13 :: R) = _; rw [norm, if_neg (by decide), if_pos rfl, norm_true R hR]; rfl
theorem dots_plain : ∀ (a R : List Nat), Pl a → dots false (a ++ R) = a ++ dots false R
  | [], _, _ => rfl
  | x :: a, R, h => by
    have hx := (h x List.mem_cons_self).1
    show dots false (x :: (a ++ R)) = x :: (a ++ dots false R)
    rw [dots, if_neg (fun q => nomatch q.1), beq_eq_false_iff_ne.mpr hx.1, dots_plain a R fun y hy => h y (List.mem_cons_of_mem _ hy)]; rfl
theorem dots_end (R : List Nat) : dots false (13 :: 10 :: R) = 13 :: 10 :: dots true R := rfl
theorem dots_row (c m : Nat) (R : List Nat) : dots true (rowS c m ++ 13 :: 10 :: R) = rowS c (m + 1) ++ 13 :: 10 :: dots true R := by
  have hp := rowS_pl c m
  obtain ⟨hl, h46⟩ := lt4_ok (c / 2 % 4) (Nat.mod_lt _ (by decide))
  have h10 := (hl _ List.mem_cons_self).1.1
  unfold rowS at hp ⊢
  rcases Nat.mod_two_eq_zero_or_one c with e | e
  · rw [e, Nat.zero_mul, List.replicate_zero, List.nil_append] at hp
    rw [e, Nat.zero_mul, Nat.zero_mul, List.replicate_zero, List.nil_append]
    show dots true (lt4.getD (c / 2 % 4) 0 :: (tl5.getD (c / 8 % 5) [] ++ 13 :: 10 :: R)) = _
    rw [dots, if_neg (fun q => h46 q.2), beq_eq_false_iff_ne.mpr h10, dots_plain _ _ (fun y hy => hp y (List.mem_cons_of_mem _ hy)), dots_end]; rfl
  · rw [e, Nat.one_mul, Nat.add_comm 1 m, List.replicate_succ, List.cons_append] at hp
    rw [e, Nat.one_mul, Nat.one_mul, Nat.add_comm 1 m, Nat.add_comm 1 (m + 1), List.replicate_succ, List.replicate_succ, List.replicate_succ]
    show dots true (46 :: ((List.replicate m 46 ++ lt4.getD (c / 2 % 4) 0 :: tl5.getD (c / 8 % 5) []) ++ 13 :: 10 :: R)) = _
    rw [dots, if_pos ⟨rfl, rfl⟩, show ((46 : Nat) == 10) = false from rfl, dots_plain _ _ (fun y hy => hp y (List.mem_cons_of_mem _ hy)), dots_end]
    simp
theorem rowS_head (c m : Nat) (R : List Nat) : (rowS c m ++ R).head? ≠ some 10 := by
  have hp := rowS_pl c m
  cases e : rowS c m with
  | nil => unfold rowS at e; simp at e
  | cons x a =>
    rw [e] at hp
    intro h
    exact (hp x List.mem_cons_self).1.1 (Option.some.inj h)
theorem mail_head : ∀ cs : List Nat, (mail2 cs).head? ≠ some 10
  | [] => by decide
  | c :: cs => by
    unfold mail2
    rw [List.map_cons, List.flatten_cons, List.append_assoc, List.append_assoc]
    exact rowS_head c 0 _
theorem norm_mail : ∀ cs : List Nat, (∀ c ∈ cs, c < 120) → norm false (mail2 cs) = sent2 cs 0
  | [], _ => rfl
  | c :: cs, h => by
    have e : mail2 (c :: cs) = rowS c 0 ++ (eol3.getD (c / 40) [] ++ mail2 cs) := by
      unfold mail2; rw [List.map_cons, List.flatten_cons, List.append_assoc, List.append_assoc]
    rw [e, norm_plain _ _ (rowS_pl c 0), norm_eol (c / 40) (Nat.div_lt_of_lt_mul (h c List.mem_cons_self)) _ (mail_head cs), norm_mail cs fun x hx => h x (List.mem_cons_of_mem _ hx)]
    simp [sent2, lines]
theorem norm_sent (m : Nat) : ∀ cs : List Nat, norm false (sent2 cs m) = sent2 cs m
  | [] => rfl
  | c :: cs => by
    have e : sent2 (c :: cs) m = rowS c m ++ (eol3.getD 1 [] ++ sent2 cs m) := by simp [sent2, lines, eol3]
    have hh : (sent2 cs m).head? ≠ some 10 := by
      cases cs with
      | nil => simp [sent2, lines]
      | cons d ds =>
        have := rowS_head d m (13 :: 10 :: sent2 ds m)
        simpa [sent2, lines] using this
    rw [e, norm_plain _ _ (rowS_pl c m), norm_eol 1 (by decide) _ hh, norm_sent m cs]; rfl
theorem dots_sent (m : Nat) : ∀ cs : List Nat, dots true (sent2 cs m) = sent2 cs (m + 1)
  | [] => rfl
  | c :: cs => by
    have e : ∀ m, sent2 (c :: cs) m = rowS c m ++ 13 :: 10 :: sent2 cs m := fun m => by simp [sent2, lines]
    rw [e, e, dots_row, dots_sent m cs]
theorem sent_lines (cs : List Nat) (m : Nat) : sent2 cs m = lines (cs.map (rowS · m) ++ [[]]) := by simp [sent2, lines]
theorem split_sent (cs : List Nat) (m : Nat) : Txt.split (St (sent2 cs m)) (St [13, 10]) = (cs.map fun c => St (rowS c m)) ++ [St [], St []] := by
  rw [sent_lines, split_rows]
  · simp
  · intro r hr c hc
    rcases List.mem_append.mp hr with hr | hr
    · obtain ⟨d, _, rfl⟩ := List.mem_map.mp hr
      exact (rowS_pl d m c hc).1.2
    · rw [List.mem_singleton.mp hr] at hc; exact absurd hc List.not_mem_nil
  · simp
theorem tl5_len : ∀ k < 5, (tl5.getD k []).length ≤ 1 := by decide
theorem rowS_len {c m : Nat} (hm : m ≤ 2) : (rowS c m).length ≤ 5 := by
  unfold rowS
  rw [List.length_append, List.length_replicate, List.length_cons]
  have h1 := tl5_len (c / 8 % 5) (Nat.mod_lt _ (by decide))
  have h2 : c % 2 * (1 + m) ≤ 1 * 3 := Nat.mul_le_mul (Nat.le_of_lt_succ (Nat.mod_lt _ (by decide))) (by rw [Nat.add_comm]; exact Nat.add_le_add_right hm 1)
  exact Nat.add_le_add h2 (Nat.add_le_add_right h1 1)
end Yy

end

section
set_option maxRecDepth 100000
namespace Yy
open PySem PySem.W PySem.Calls PySem.Builtin PySem.Builtin.Re

theorem meets_sub {C : Array Nat} {l r : List Nat} {G : Nat → List Nat} (S : SubOk C l r G) (hr : r ≠ []) (hG : (G 0).length ≤ 2 ^ 18) (hl : l.length ≤ 2 ^ 18) (hrl : r.length ≤ 2 ^ 10) (hb : (St r).cps.contains 92 = false) (a : Addr) (t u : Tok) :
    Meets (Builtin.«re.Pattern.sub» ⟨[.ref a, .str (St r) t, .str (St l) u], []⟩) (fun A R s => PatAt s.heap a C ∧
      ∀ h' tk' t', (∀ b o, s.heap.get? b = some o → h'.get? b = some o) → R (.ok (.ret (.str (St (G 0)) t'))) { s with heap := h', toks := tk' }) := by
  intro prog w A R s ⟨hP, hR⟩
  rw [pat_sub_tree a (St r) (St l) t u hb]
  refine wpAny_bind (wpAny_holding (wholeTarget hP ?_))
  refine wpAny_bind (wpAny_newList ?_ (by simp [sizeLine]))
  refine wpAny_pure ?_
  refine ⟨plainId_quiet plain_pat_loop _, codeAny_builtin entry_pat_loop ?_⟩
  rw [Around.under_plainId plain_pat_loop _]
  have keep : ∀ h' : Heap, (∀ b, b ≠ s.heap.objs.size → h'.get? b = (s.heap.push { cls := .type "list", data := .seq ([] : List Value).toArray }).get? b) → ∀ b o, s.heap.get? b = some o → h'.get? b = some o := fun h' hk b o e => by
    rw [hk b (Nat.ne_of_lt (Heap.lt_size e))]
    exact Heap.get?_push_of_some _ e
  exact sub_loop S hr hG hl hrl (s := s) l.length 0 (by omega) 0 [] 0 _ s.toks (fun p hp => nomatch hp) rfl (Heap.get?_push_size _ rfl) (hP.keeps fun b o e => Heap.get?_push_of_some _ e) (fun h' hk => hP.keeps (keep h' hk)) fun h' tk' t' hk => hR h' tk' t' (keep h' hk)

section
variable {prog : Program} {w : World} {h₀ : Heap} {A : Around} {led : Led} {Q : Led → MV → Prop}
theorem b_sub {C : Array Nat} {l r : List Nat} {G : Nat → List Nat} (S : SubOk C l r G) (hr : r ≠ []) (hG : (G 0).length ≤ 2 ^ 18) (hl : l.length ≤ 2 ^ 18) (hrl : r.length ≤ 2 ^ 10) (hb : (St r).cps.contains 92 = false) {a : Addr} (hP : PatAt h₀ a C)
    (hc : ∃ o, h₀.get? a = some o ∧ o.cls = .type "re.Pattern") (h : Q led (.str (St (G 0)))) : Cl prog w h₀ A led (.bi "re.Pattern.sub") [.obj a, .str (St r), .str (St l)] [] Q :=
  ⟨trivial, fun B fv vs ks rf rs rk s K H k => by
    cases rf; cases rk; cases rs with | cons r1 rs => ?_
    cases rs with | cons r2 rs => ?_
    cases rs with | cons r3 rs => ?_
    cases rs; cases r1; cases r2; cases r3
    obtain ⟨o, ho, hcls⟩ := hc
    have hle : ∀ b o, h₀.get? b = some o → s.heap.get? b = some o := H.base.trans H.keep
    refine call_meets slot_pat_sub ⟨o, hle _ _ ho, hcls⟩ entry_pat_sub (args_pat_sub _ _ _) (meets_sub S hr hG hl hrl hb a _ _) ⟨hP.keeps hle, fun h' tk' t' hk => ?_⟩
    exact k B h' tk' _ _ (Le.refl _) (H.keeps hk) ⟨_, .str, h⟩⟩
end
end Yy

end

section
namespace Yy
open PySem PySem.Builtin PyProof.Rows

theorem digs_undig (n : Nat) : ∀ ds : List Int, (∀ d ∈ ds, 0 ≤ d ∧ d < 2 ^ n) → digs n ds.length (undig n ds) = ds
  | [], _ => rfl
  | d :: ds, h => by
    have hd := h d (.head _)
    have ih := digs_undig n ds fun x hx => h x (.tail _ hx)
    obtain ⟨e1, e2⟩ := dm_of (a := d + 2 ^ n * undig n ds) (b := 2 ^ n) (q := undig n ds) (r := d) hd.1 hd.2 (by rw [Int.mul_comm, Int.add_comm])
    rw [List.length_cons, undig_cons, digs_succ, e1, e2, ih]
theorem undig_bits {n : Nat} {ds : List Int} {t : Int} (hn : 1 ≤ n) (h : ∀ d ∈ ds ++ [t], 0 ≤ d ∧ d < 2 ^ n) (ht : 0 < t) : (Builtin.Int.intBits (undig n (ds ++ [t])) + n - 1) / n = (ds ++ [t]).length := by
  have hb := undig_bound n _ h
  have e : undig n (ds ++ [t]) = undig n ds + 2 ^ (n * ds.length) * t := by rw [undig_app]; simp [undig_cons, undig_nil]
  have h0 := (undig_bound n ds fun d hd => h d (List.mem_append_left _ hd)).1
  have h1 : (2 : Int) ^ (n * ds.length) ≤ undig n (ds ++ [t]) := by
    rw [e]
    have : (2 : Int) ^ (n * ds.length) * 1 ≤ 2 ^ (n * ds.length) * t := Int.mul_le_mul_of_nonneg_left ht (Int.le_of_lt (pow_pos2 _))
    rw [Int.mul_one] at this
    exact Int.le_trans this (Int.le_add_of_nonneg_left h0)
  have u := bits_le hb.1 hb.2
  have l : n * ds.length < Builtin.Int.intBits (undig n (ds ++ [t])) := by
    rcases Nat.lt_or_ge (n * ds.length) (Builtin.Int.intBits (undig n (ds ++ [t]))) with q | q
    · exact q
    · have := PySem.intBits_le_iff.mp q
      have h2 : ((undig n (ds ++ [t])).natAbs : Int) = undig n (ds ++ [t]) := Int.natAbs_of_nonneg hb.1
      have h3 : ((undig n (ds ++ [t])).natAbs : Int) < ((2 ^ (n * ds.length) : Nat) : Int) := by exact_mod_cast this
      rw [h2] at h3
      push_cast at h3
      exact absurd h1 (Int.not_le.mpr h3)
  rw [List.length_append, List.length_singleton] at u ⊢
  rw [Nat.mul_add, Nat.mul_one] at u
  generalize Builtin.Int.intBits (undig n (ds ++ [t])) = B at *
  apply Nat.le_antisymm
  · refine Nat.le_of_lt_succ (Nat.div_lt_of_lt_mul ?_)
    rw [Nat.mul_succ, Nat.mul_succ]
    exact Nat.lt_of_lt_of_le (Nat.sub_lt (Nat.lt_of_lt_of_le hn (Nat.le_add_left n B)) Nat.zero_lt_one) (Nat.add_le_add_right u n)
  · refine (Nat.le_div_iff_mul_le hn).mpr ?_
    rw [Nat.succ_mul, Nat.mul_comm]
    exact Nat.le_sub_of_add_le (by rw [Nat.add_right_comm]; exact Nat.add_le_add_right l n)
theorem fd_of {a b q r : Int} (h : a = q * b + r) (hr : (0 ≤ r ∧ r < b) ∨ (b < r ∧ r ≤ 0)) : a.fdiv b = q ∧ a.fmod b = r := by
  rcases hr with ⟨h0, h1⟩ | ⟨h0, h1⟩
  · obtain ⟨e1, e2⟩ := dm_of (a := a) (b := b) (q := q) (r := r) h0 h1 h.symm
    have hb := Int.le_of_lt (Int.lt_of_le_of_lt h0 h1)
    exact ⟨(Int.fdiv_eq_ediv_of_nonneg _ hb).trans e1, (Int.fmod_eq_emod_of_nonneg _ hb).trans e2⟩
  · obtain ⟨e1, e2⟩ := dm_of (a := -a) (b := -b) (q := q) (r := -r) (Int.neg_nonneg_of_nonpos h1) (Int.neg_lt_neg h0) (by rw [h, Int.mul_neg, Int.neg_add])
    have e3 : a.fdiv b = q := by rw [← Int.neg_fdiv_neg, Int.fdiv_eq_ediv_of_nonneg _ (Int.neg_nonneg_of_nonpos (Int.le_of_lt (Int.lt_of_lt_of_le h0 h1)))]; exact e1
    refine ⟨e3, ?_⟩
    have h2 := Int.mul_fdiv_add_fmod a b
    rw [e3, Int.mul_comm] at h2
    exact Int.add_left_cancel (h2.trans h)
end Yy

end

section
set_option maxRecDepth 100000
namespace Yy

/-! ### Kruskal, by places -/
noncomputable abbrev Kst (α : Type) := List Nat × List (List α) × List α
noncomputable def joinM {α : Type} (hs : List Nat) (p0 p1 : Nat) (w : α) (J : List (List α)) : List (List α) :=
  (List.range 4).map fun a => (List.range 4).map fun b =>
    if hs.getD a 0 ≠ hs.getD b 0 ∧ (hs.getD a 0 = p0 ∨ hs.getD a 0 = p1) ∧ (hs.getD b 0 = p0 ∨ hs.getD b 0 = p1) then w else (J.getD a []).getD b w
noncomputable def kstep {α : Type} (s : Kst α) (w : α) (h l : Nat) : Kst α :=
  if s.1.getD h 0 = s.1.getD l 0 then s else
    (s.1.map fun x => if x = s.1.getD h 0 then s.1.getD l 0 else x, joinM s.1 (s.1.getD h 0) (s.1.getD l 0) w s.2.1, s.2.2 ++ [w])
noncomputable def kinit {α : Type} (z : α) : Kst α := ([0, 1, 2, 3], List.replicate 4 [z, z, z, z], [])
noncomputable def kall {α : Type} (z : α) (l : List (α × Nat)) : Kst α := l.foldl (fun s p => kstep s p.1 (p.2 / 4) (p.2 % 4)) (kinit z)
noncomputable def kmap {α β : Type} (f : α → β) (s : Kst α) : Kst β := (s.1, s.2.1.map (List.map f), s.2.2.map f)
/-- the least that the longest tie of any way can have -/
noncomputable def relax {α : Type} (mn mx : α → α → α) (z : α) (M : List (List α)) (stop : Nat) : List (List α) :=
  (List.range 4).map fun a => (List.range 4).map fun b => mn ((M.getD a []).getD b z) (mx ((M.getD a []).getD stop z) ((M.getD stop []).getD b z))
noncomputable def wideM {α : Type} (mn mx : α → α → α) (z : α) (M : List (List α)) : List (List α) := (List.range 4).foldl (relax mn mx z) M
/-- all orders of a list -/
noncomputable def inserts (x : Nat) : List Nat → List (List Nat)
  | [] => [[x]]
  | y :: ys => (x :: y :: ys) :: (inserts x ys).map (y :: ·)
noncomputable def perms : List Nat → List (List Nat)
  | [] => [[]]
  | x :: xs => (perms xs).flatMap (inserts x)
noncomputable def sers : List Nat := [4, 8, 9, 12, 13, 14]
/-- where a tie stands, from 1 on -/
noncomputable def posOf (l : List Nat) (n : Nat) : Nat := l.idxOf n + 1
noncomputable def d3 (t : Nat → Nat → Bool) (a b c p q r : Nat) : Bool :=
  (t a p && (t b q && t c r || t b r && t c q)) || (t a q && (t b p && t c r || t b r && t c p)) || (t a r && (t b p && t c q || t b q && t c p))
noncomputable def dom := d3 Nat.ble
noncomputable def equ := d3 Nat.beq
noncomputable def treesL : List (Nat × Nat × Nat) := [(3, 1, 0), (3, 2, 0), (3, 2, 1), (4, 1, 0), (4, 2, 0), (4, 2, 1), (4, 3, 1), (4, 3, 2), (5, 1, 0), (5, 2, 0), (5, 2, 1), (5, 3, 0), (5, 3, 2), (5, 4, 0), (5, 4, 1), (5, 4, 3)]
noncomputable def triOk (a b c : Nat) (ps : List Nat) : Bool := (treesL.all fun t => dom a b c (ps.getD t.1 0) (ps.getD t.2.1 0) (ps.getD t.2.2 0)) && (treesL.any fun t => equ a b c (ps.getD t.1 0) (ps.getD t.2.1 0) (ps.getD t.2.2 0))
noncomputable def psOf (l : List Nat) : List Nat := sers.map (posOf l)
noncomputable def farQ (ps : List Nat) : List (List Nat) :=
  let p := fun i => ps.getD i 0
  [[0, p 0, p 1, p 3], [p 0, 0, p 2, p 4], [p 1, p 2, 0, p 5], [p 3, p 4, p 5, 0]]
noncomputable def chk2 (J : List (List Nat)) (st ps : List Nat) : Bool :=
  (J == wideM min max 0 (farQ ps)) && (match st with
    | [a, b, c] => triOk a b c ps
    | _ => false)
noncomputable def chk (l : List Nat) : Bool :=
  let s := kall 0 (l.zipIdx.map fun x => (x.2 + 1, x.1))
  chk2 s.2.1 s.2.2 (psOf l)
noncomputable def restP : List (List Nat) := perms [8, 9, 12, 13, 14]
noncomputable def chkR (l : List Nat) : Bool := (inserts 4 l).all chk
noncomputable def dropN (l : List (List Nat)) : Nat → List (List Nat)
  | 0 => l
  | n + 1 => (dropN l n).drop 10
theorem part0 : ((dropN restP 0).take 10).all chkR = true := by decide +kernel
theorem part1 : ((dropN restP 1).take 10).all chkR = true := by decide +kernel
theorem part2 : ((dropN restP 2).take 10).all chkR = true := by decide +kernel
theorem part3 : ((dropN restP 3).take 10).all chkR = true := by decide +kernel
theorem part4 : ((dropN restP 4).take 10).all chkR = true := by decide +kernel
theorem part5 : ((dropN restP 5).take 10).all chkR = true := by decide +kernel
theorem part6 : ((dropN restP 6).take 10).all chkR = true := by decide +kernel
theorem part7 : ((dropN restP 7).take 10).all chkR = true := by decide +kernel
theorem part8 : ((dropN restP 8).take 10).all chkR = true := by decide +kernel
theorem part9 : ((dropN restP 9).take 10).all chkR = true := by decide +kernel
theorem part10 : ((dropN restP 10).take 10).all chkR = true := by decide +kernel
theorem part11 : ((dropN restP 11).take 10).all chkR = true := by decide +kernel
theorem chunk {p : List Nat → Bool} {l : List (List Nat)} (h1 : (l.take 10).all p = true) (h2 : (l.drop 10).all p = true) : l.all p = true := by
  rw [← List.take_append_drop 10 l, List.all_append, h1, h2]; rfl
theorem chk_all : restP.all chkR = true := chunk (l := dropN restP 0) part0 (chunk (l := dropN restP 1) part1 (chunk (l := dropN restP 2) part2 (chunk (l := dropN restP 3) part3 (chunk (l := dropN restP 4) part4 (chunk (l := dropN restP 5) part5 (chunk (l := dropN restP 6) part6 (chunk (l := dropN restP 7) part7 (chunk (l := dropN restP 8) part8 (chunk (l := dropN restP 9) part9 (chunk (l := dropN restP 10) part10 (chunk (l := dropN restP 11) part11 (show (dropN restP 12).all chkR = true by decide +kernel))))))))))))
theorem mem_inserts (x : Nat) (post : List Nat) : ∀ pre : List Nat, pre ++ x :: post ∈ inserts x (pre ++ post)
  | [] => by
    cases post with
    | nil => exact List.mem_singleton.mpr rfl
    | cons y ys => exact List.mem_cons_self
  | y :: pre => List.mem_cons_of_mem _ (List.mem_map.mpr ⟨_, mem_inserts x post pre, rfl⟩)
theorem mem_perms : ∀ (xs l : List Nat), l.Perm xs → l ∈ perms xs
  | [], l, h => by rw [List.Perm.eq_nil h]; exact List.mem_singleton.mpr rfl
  | x :: xs, l, h => by
    obtain ⟨pre, post, rfl⟩ := List.append_of_mem (h.mem_iff.mpr (List.mem_cons_self (a := x)))
    have h2 : (pre ++ post).Perm xs := List.Perm.cons_inv (List.perm_middle.symm.trans h)
    exact List.mem_flatMap.mpr ⟨_, mem_perms xs _ h2, mem_inserts x post pre⟩
theorem chk_of {l : List Nat} (h : l.Perm sers) : chk l = true := by
  obtain ⟨l', h1, h2⟩ := List.mem_flatMap.mp (mem_perms sers l h)
  exact List.all_eq_true.mp (List.all_eq_true.mp chk_all l' h1) l h2

/-! ### from places to lengths -/
section
variable {α β : Type} (f : α → β)
theorem getD_map2 (J : List (List α)) (a b : Nat) (w : α) : ((J.map (List.map f)).getD a []).getD b (f w) = f ((J.getD a []).getD b w) := by
  rw [List.getD_eq_getElem?_getD, List.getD_eq_getElem?_getD, List.getD_eq_getElem?_getD, List.getD_eq_getElem?_getD, List.getElem?_map]
  cases J[a]? with
  | none => rfl
  | some r =>
    show ((r.map f)[b]?).getD (f w) = f ((r[b]?).getD w)
    rw [List.getElem?_map]
    cases r[b]? <;> rfl
theorem kstep_map (s : Kst α) (w : α) (h l : Nat) : kstep (kmap f s) (f w) h l = kmap f (kstep s w h l) := by
  unfold kstep
  rw [show (kmap f s).1 = s.1 from rfl]
  split
  · rfl
  · unfold kmap
    rw [List.map_append]
    refine Prod.ext rfl (Prod.ext ?_ rfl)
    show joinM _ _ _ _ _ = List.map (List.map f) (joinM _ _ _ _ _)
    unfold joinM
    rw [List.map_map]
    refine List.map_congr_left fun a _ => ?_
    show _ = List.map f (List.map _ _)
    rw [List.map_map]
    refine List.map_congr_left fun b _ => ?_
    show _ = f (if _ then _ else _)
    split
    · rfl
    · exact getD_map2 f _ a b w
theorem kall_map (z : α) (l : List (α × Nat)) : kall (f z) (l.map fun p => (f p.1, p.2)) = kmap f (kall z l) := by
  have main : ∀ (l : List (α × Nat)) (s : Kst α), (l.map fun p => (f p.1, p.2)).foldl (fun s p => kstep s p.1 (p.2 / 4) (p.2 % 4)) (kmap f s) = kmap f (l.foldl (fun s p => kstep s p.1 (p.2 / 4) (p.2 % 4)) s) := by
    intro l
    induction l with
    | nil => intro s; rfl
    | cons p l ih =>
      intro s
      rw [List.map_cons, List.foldl_cons, List.foldl_cons, kstep_map]
      exact ih _
  exact main l (kinit z)
theorem relax_map {mn mx : α → α → α} {mn' mx' : β → β → β} (h1 : ∀ x y, f (mn x y) = mn' (f x) (f y)) (h2 : ∀ x y, f (mx x y) = mx' (f x) (f y)) (z : α) (M : List (List α)) (k : Nat) :
    relax mn' mx' (f z) (M.map (List.map f)) k = (relax mn mx z M k).map (List.map f) := by
  unfold relax
  rw [List.map_map]
  refine List.map_congr_left fun a _ => ?_
  show _ = List.map f (List.map _ _)
  rw [List.map_map]
  refine List.map_congr_left fun b _ => ?_
  show _ = f (mn _ (mx _ _))
  rw [h1, h2, getD_map2, getD_map2, getD_map2]
theorem wideM_map {mn mx : α → α → α} {mn' mx' : β → β → β} (h1 : ∀ x y, f (mn x y) = mn' (f x) (f y)) (h2 : ∀ x y, f (mx x y) = mx' (f x) (f y)) (z : α) (M : List (List α)) :
    wideM mn' mx' (f z) (M.map (List.map f)) = (wideM mn mx z M).map (List.map f) := by
  have main : ∀ (l : List Nat) (M : List (List α)), l.foldl (relax mn' mx' (f z)) (M.map (List.map f)) = (l.foldl (relax mn mx z) M).map (List.map f) := by
    intro l
    induction l with
    | nil => intro M; rfl
    | cons k l ih => intro M; rw [List.foldl_cons, List.foldl_cons, relax_map f h1 h2]; exact ih _
  exact main _ M
end
theorem d3_sound {t : Nat → Nat → Bool} {a b c p q r : Nat} (h : d3 t a b c p q r = true) {P : Nat → Nat → Nat → Prop} (k : ∀ x y z, t a x = true → t b y = true → t c z = true → P x y z)
    (s1 : ∀ x y z, P x y z → P y x z) (s2 : ∀ x y z, P x y z → P x z y) : P p q r := by
  unfold d3 at h
  simp only [Bool.or_eq_true, Bool.and_eq_true] at h
  rcases h with (⟨h1, ⟨h2, h3⟩ | ⟨h2, h3⟩⟩ | ⟨h1, ⟨h2, h3⟩ | ⟨h2, h3⟩⟩) | ⟨h1, ⟨h2, h3⟩ | ⟨h2, h3⟩⟩
  · exact k _ _ _ h1 h2 h3
  · exact s2 _ _ _ (k _ _ _ h1 h2 h3)
  · exact s1 _ _ _ (k _ _ _ h1 h2 h3)
  · exact s1 _ _ _ (s2 _ _ _ (k _ _ _ h1 h2 h3))
  · exact s2 _ _ _ (s1 _ _ _ (k _ _ _ h1 h2 h3))
  · exact s1 _ _ _ (s2 _ _ _ (s1 _ _ _ (k _ _ _ h1 h2 h3)))
theorem dom_sound {f : Nat → Int} (hf : ∀ x y, x ≤ y → f x ≤ f y) {a b c p q r : Nat} (h : dom a b c p q r = true) : f a + f b + f c ≤ f p + f q + f r :=
  d3_sound (P := fun x y z => f a + f b + f c ≤ f x + f y + f z) h (fun x y z e1 e2 e3 => Int.add_le_add (Int.add_le_add (hf _ _ (Nat.le_of_ble_eq_true e1)) (hf _ _ (Nat.le_of_ble_eq_true e2))) (hf _ _ (Nat.le_of_ble_eq_true e3)))
    (fun x y z h => by rw [Int.add_comm (f y)]; exact h) (fun x y z h => by rw [Int.add_right_comm (f x)]; exact h)
theorem equ_sound {f : Nat → Int} {a b c p q r : Nat} (h : equ a b c p q r = true) : f a + f b + f c = f p + f q + f r :=
  d3_sound (P := fun x y z => f a + f b + f c = f x + f y + f z) h (fun x y z e1 e2 e3 => by rw [Nat.eq_of_beq_eq_true e1, Nat.eq_of_beq_eq_true e2, Nat.eq_of_beq_eq_true e3])
    (fun x y z h => by rw [Int.add_comm (f y)]; exact h) (fun x y z h => by rw [Int.add_right_comm (f x)]; exact h)
end Yy

end

section
open PySem PySem.W PyProof.Rows
namespace Mine
set_option maxRecDepth 100000
set_option maxHeartbeats 8000000
open_top hd for PySem.Challenge.rw_tv0045_02
end Mine

end

section
set_option maxRecDepth 100000
open PySem PySem.W PySem.Calls PyProof.Rows Yy
namespace Mine
noncomputable abbrev S (s : String) : Str := Str.ofString s
/-- the globals that the text has -/
noncomputable def G : Vars := [(S "_substitution_cost", .obj 124), (S "_levenshtein_distance", .obj 131), (S "_div2n1n", .obj 65), (S "_div3n2n", .obj 72), (S "_int2digits", .obj 79), (S "_digits2int", .obj 86), (S "_divmod_pos", .obj 93), (S "int_divmod", .obj 100),
  (S "insort_right", .obj 40), (S "bisect_right", .obj 49), (S "bisect_left", .obj 58), (S "_twin_re_1", .obj 105), (S "_twin_re_2", .obj 110), (S "quotedata", .obj 117), (S "_law_first", .obj 145),
  (S "_law_row", .obj 138), (S "_law_far", .obj 150), (S "_law_square", .obj 157), (S "_law_nets", .obj 162), (S "_law_counts", .obj 169),
  (S "_MAX_STRING_SIZE", .int 40), (S "_MOVE_COST", .int 2), (S "_CASE_COST", .int 1), (S "_DIV_LIMIT", .int 4000), (S "CRLF", .str (S "\r\n"))]
noncomputable def Bn : Vars := [(S "len", .bi "len"), (S "sum", .bi "sum"), (S "min", .bi "min"), (S "max", .bi "max"), (S "divmod", .bi "divmod"), (S "sorted", .bi "sorted"), (S "range", .ty "range"), (S "list", .ty "list"), (S "int", .ty "int"), (S "enumerate", .ty "enumerate"), (S "reversed", .ty "reversed")]
structure Cx (h₀ : Heap) (P : Params) : Prop where
  inK : (hd.heap_39 P).In h₀
  nol : h₀.NoLimit
  gd : Gd h₀ G Bn
noncomputable abbrev pw : Program := PySem.Challenge.pw_tv0045_02

local macro_rules | `(tactic| walk_at "u") => `(tactic| with_unfolding_all rfl)
theorem cx_of {h₀ : Heap} {p : Program} {loose : List Str} {mg mb : Str → Option Value} {P : Params} (X : (hd.heap_39 P).In h₀) (hn : h₀.NoLimit) (T : TopRead p loose mg mb h₀)
    (hG : ∀ x y, G.lookup x = some y → ∃ v, mg x = some v ∧ ∀ B, VR B v y) (hB : ∀ x y, Bn.lookup x = some y → mg x = none ∧ ∃ v, mb x = some v ∧ ∀ B, VR B v y) : Cx h₀ P :=
  ⟨X, hn, ⟨p, loose, mg, mb, T, hG, hB⟩⟩
end Mine

end

section
open PySem PySem.W PySem.Calls PyProof.Rows Yy
open Mine
local macro_rules | `(tactic| walk_at "u") => `(tactic| with_unfolding_all rfl)
local macro_rules | `(tactic| walk_at "Y") => `(tactic| repeat with_reducible first
  | refine Xs.cons ?_
  | refine Xs.nil ?_
  | refine X1.ret ?_
  | refine E1.pureA ?_
  | refine T1.pureA ?_
  | refine Es.pureA ?_
  | refine X1.if ?_
  | refine X1.assignA ?_
  | refine X1.augA ?_
  | refine E1.cellA ?_
  | refine E1.globA (Cx.gd ‹Cx _ _›) ?_
  | refine E1.bltA (Cx.gd ‹Cx _ _›) ?_
  | refine T1.cmpA ?_
  | refine T1.not ?_
  | refine T1.and0 ?_
  | refine T1.and ?_
  | refine T1.or0 ?_
  | refine T1.or ?_
  | refine E1.cmpA ?_
  | refine E1.bin ?_
  | refine E1.un ?_
  | refine E1.ifexp ?_
  | refine E1.or1 ?_
  | refine E1.or ?_
  | refine E1.callA ?_
  | refine E1.sliceA ?_
  | refine Es.co ?_
  | refine BdQ.no ?_
  | refine BdQ.so ?_
  | refine BvQ.n ?_
  | refine BvQ.i ?_
  | refine E1.subA ?_
  | refine BinQ.ev ?_
  | refine CmpQ.ev ?_
  | refine TruQ.ev ?_
  | refine UnQ.ev ?_
  | refine AugQ.ev ?_
  | refine T1.plainA ?_)
local macro_rules | `(tactic| walk_at "has") => `(tactic| repeat (first | exact Has.nil | exact Has.refl _ | refine Has.cons (by with_unfolding_all rfl) ?_))
local macro_rules | `(tactic| walk_at "set") => `(tactic| repeat (first | exact SetL.head | exact SetC.head | exact DelL.head | refine SetL.tail ?_ | refine SetC.tail ?_ | refine DelL.tail ?_))
local macro_rules | `(tactic| walk_at "mem") => `(tactic| repeat (first | exact memH | refine memT ?_))
local macro_rules | `(tactic| walk_at "le") => `(tactic| first | exact to20 (by assumption) | exact to24 (by assumption) | exact to62 (by assumption) | exact dr62 (by assumption) | exact tk62 (by assumption) | lia)

section
set_option maxRecDepth 100000
open PySem PySem.W PySem.Calls PyProof.Rows Yy
namespace Mine



/-- a tie: its key ahead -/
noncomputable def tk (p : Int × List MV) : MV := .tup (.int p.1 :: p.2)
noncomputable def tks (ps : List (Int × List MV)) : List MV := ps.map tk
theorem tks_get {ps : List (Int × List MV)} {i : Nat} {p} (h : ps[i]? = some p) : (tks ps)[i]? = some (tk p) := by
  unfold tks; rw [List.getElem?_map, h]; rfl
theorem tks_len {ps : List (Int × List MV)} : (tks ps).length = ps.length := by simp [tks]

theorem first_spec {w : World} {h₀ : Heap} (C : Cx h₀ w.params) {A : Around} (hA : Rm A 1) {led : Led} {p : Int × List MV} :
    Cl pw w h₀ A led (.obj 145) [tk p] [] (fun l x => l = led ∧ x = .int p.1) := by
  refine Cl.defC C.nol (.inl (C.inK _ _ (by walk_at "u"))) (codeOf C.inK (by walk_at "u")) hA (Binds.of_eq [S "tie"] (all1 rfl fun x => by walk_at "u")) (fun c L A' hA' => ⟨_, led, .loc (by walk_at "u") .nil, ?_⟩)
  walk_at "Y"
  exact ⟨⟨by decide, by decide⟩, _, rfl, led, List.Sublist.refl _, rfl, rfl⟩

noncomputable def SortedOn (ks : List Int) (lo hi : Nat) : Prop := ∀ i j x y, lo ≤ i → i ≤ j → j < hi → ks[i]? = some x → ks[j]? = some y → x ≤ y
/-- where x goes, behind its likes -/
noncomputable def IsBR (ks : List Int) (x : Int) (lo hi r : Nat) : Prop := lo ≤ r ∧ r ≤ hi ∧ (∀ i y, lo ≤ i → i < r → ks[i]? = some y → y ≤ x) ∧ (∀ i y, r ≤ i → i < hi → ks[i]? = some y → x < y)
/-- where x goes, ahead of its likes -/
noncomputable def IsBL (ks : List Int) (x : Int) (lo hi r : Nat) : Prop := lo ≤ r ∧ r ≤ hi ∧ (∀ i y, lo ≤ i → i < r → ks[i]? = some y → y < x) ∧ (∀ i y, r ≤ i → i < hi → ks[i]? = some y → x ≤ y)
noncomputable def keysOf (ps : List (Int × List MV)) : List Int := ps.map (·.1)
theorem keysOf_get {ps : List (Int × List MV)} {i : Nat} {p} (h : ps[i]? = some p) : (keysOf ps)[i]? = some p.1 := by
  unfold keysOf; rw [List.getElem?_map, h]; rfl

theorem mid_eq (lo hi : Nat) : ((lo : Int) + (hi : Int)).fdiv 2 = (((lo + hi) / 2 : Nat) : Int) := by
  rw [Int.fdiv_eq_ediv_of_nonneg _ (by decide)]; rfl

theorem mid_in {l h : Nat} (z : l < h) : l ≤ (l + h) / 2 ∧ (l + h) / 2 < h :=
  ⟨(Nat.le_div_iff_mul_le (by decide)).mpr (by rw [Nat.mul_two]; exact Nat.add_le_add_left (Nat.le_of_lt z) l), Nat.div_lt_of_lt_mul (by rw [Nat.two_mul]; exact Nat.add_lt_add_right z h)⟩

set_option maxHeartbeats 4000000 in
theorem br_spec {w : World} {h₀ : Heap} (C : Cx h₀ w.params) {A : Around} (hA : Rm A 3) {led : Led} {a : Addr} {ps : List (Int × List MV)} {x : Int} {lo hi : Nat} (hm : (a, LC.list (tks ps)) ∈ led)
    (h1 : lo ≤ hi) (h2 : hi ≤ ps.length) (h3 : ps.length ≤ 2 ^ 20) (hs : SortedOn (keysOf ps) lo hi) :
    Cl pw w h₀ A led (.obj 49) [.obj a, .int x, .int lo, .int hi] [(S "key", .obj 145)] (fun l v => l = led ∧ ∃ r : Nat, v = .int r ∧ IsBR (keysOf ps) x lo hi r) := by
  refine Cl.defC C.nol (.inl (C.inK _ _ (by walk_at "u"))) (codeOf C.inK (by walk_at "u")) hA (Binds.of_kwd [S "a", S "x", S "lo", S "hi", S "key"] (by walk_at "u") (C.inK _ _ (by walk_at "u")) (by walk_at "u") (fun v => all4 rfl fun x1 x2 x3 x4 => ⟨_, by walk_at "u", by walk_at "u"⟩)) (fun c L A' hA' => ⟨_, led, .loc (by walk_at "u") (.loc (by walk_at "u") (.loc (by walk_at "u") (.loc (by walk_at "u") (.loc (by walk_at "u") .nil)))), ?_⟩)
  have hh := hA'.handled
  walk_at "Y"
  refine two_dec (fun z => absurd z (Int.not_lt.mpr (Int.natCast_nonneg _))) (fun _ => ?_)
  walk_at "Y"
  refine two_no ?_
  walk_at "Y"
  refine two_no ?_
  refine Xs.cons ?_
  refine X1.whileS (σ := Nat × Nat) (fun s => [(S "a", .obj a), (S "x", .int x), (S "lo", .int (s.1 : Nat)), (S "hi", .int (s.2 : Nat)), (S "key", .obj 145)]) (fun _ => led)
    (fun n s => n = s.2 - s.1 ∧ lo ≤ s.1 ∧ s.1 ≤ s.2 ∧ s.2 ≤ hi ∧ (∀ i y, lo ≤ i → i < s.1 → (keysOf ps)[i]? = some y → y ≤ x) ∧ (∀ i y, s.2 ≤ i → i < hi → (keysOf ps)[i]? = some y → x < y)) (hi - lo) (lo, hi)
    ⟨rfl, Nat.le_refl _, h1, Nat.le_refl _, fun i y a1 a2 => absurd a2 (Nat.not_lt.mpr a1), fun i y a1 a2 => absurd a2 (Nat.not_lt.mpr a1)⟩ (by walk_at "has") rfl ?_
  rintro n ⟨l, h⟩ hP
  have g1 := hP.2.1
  have g2 := hP.2.2.1
  have g3 := hP.2.2.2.1
  have g4 := hP.2.2.2.2.1
  have g5 := hP.2.2.2.2.2
  obtain rfl := hP.1
  clear hP
  dsimp only at g1 g2 g3 g4 g5
  walk_at "Y"
  refine two_dec (fun z => ?_) (fun z => ?_)
  · walk_at "Y"
    refine BinQ.fdivI ?_ (by decide) (PyProof.noPylong_small (by decide))
    have z' : l < h := Int.ofNat_lt.mp z
    have hlm := (mid_in z').1
    have hmh := (mid_in z').2
    rw [mid_eq]
    revert hmh
    revert hlm
    refine gen ((l + h) / 2) fun md => ?_
    intro hlm hmh
    have hm1 : md < ps.length := Nat.lt_of_lt_of_le hmh (Nat.le_trans g3 h2)
    have em : ps[md]? = some ps[md] := List.getElem?_eq_getElem hm1
    have hmk : md < hi := Nat.lt_of_lt_of_le hmh g3
    walk_at "Y"
    refine ⟨⟨Int.natCast_nonneg _, ncl (Nat.le_trans (Nat.le_of_lt hm1) h3) (by decide)⟩, _, List.Mem.tail _ hm, _, (by rw [Int.toNat_natCast]; exact tks_get em), ?_⟩
    have ek := keysOf_get em
    revert ek
    revert em
    refine gen (ps[md]) fun p => ?_
    intro em ek
    walk_at "Y"
    refine Cl.fn (first_spec C (hA'.less (by decide))) ?_
    walk_at "Y"
    refine two_dec (fun z2 => ?_) (fun z2 => ?_)
    · walk_at "Y"
      refine ⟨md - l, (l, md), Nat.sub_lt_sub_right hlm hmh, ⟨rfl, g1, hlm, Nat.le_of_lt hmk, g4, fun i y a1 a2 e => ?_⟩, by walk_at "has", rfl⟩
      exact Int.lt_of_lt_of_le z2 (hs _ _ _ _ (Nat.le_trans g1 hlm) a1 a2 ek e)
    · walk_at "Y"
      refine ⟨h - (md + 1), (md + 1, h), Nat.sub_lt_sub_left z' (Nat.lt_succ_of_le hlm), ⟨rfl, Nat.le_succ_of_le (Nat.le_trans g1 hlm), hmh, g3, fun i y a1 a2 e => ?_, g5⟩, ?_, rfl⟩
      · exact Int.le_trans (hs i md _ _ a1 (Nat.le_of_lt_succ a2) hmk e ek) (Int.not_lt.mp z2)
      · rw [show ((md : Nat) : Int) + 1 = ((md + 1 : Nat) : Int) from rfl]
        walk_at "has"
  · have z' : l = h := Nat.le_antisymm g2 (Nat.not_lt.mp fun q => z (Int.ofNat_lt.mpr q))
    subst z'
    walk_at "Y"
    exact ⟨led, List.Sublist.refl _, rfl, l, rfl, g1, g3, g4, g5⟩

set_option maxHeartbeats 4000000 in
theorem bl_spec {w : World} {h₀ : Heap} (C : Cx h₀ w.params) {A : Around} (hA : Rm A 3) {led : Led} {a : Addr} {ps : List (Int × List MV)} {x : Int} {lo hi : Nat} (hm : (a, LC.list (tks ps)) ∈ led)
    (h1 : lo ≤ hi) (h2 : hi ≤ ps.length) (h3 : ps.length ≤ 2 ^ 20) (hs : SortedOn (keysOf ps) lo hi) :
    Cl pw w h₀ A led (.obj 58) [.obj a, .int x, .int lo, .int hi] [(S "key", .obj 145)] (fun l v => l = led ∧ ∃ r : Nat, v = .int r ∧ IsBL (keysOf ps) x lo hi r) := by
  refine Cl.defC C.nol (.inl (C.inK _ _ (by walk_at "u"))) (codeOf C.inK (by walk_at "u")) hA (Binds.of_kwd [S "a", S "x", S "lo", S "hi", S "key"] (by walk_at "u") (C.inK _ _ (by walk_at "u")) (by walk_at "u") (fun v => all4 rfl fun x1 x2 x3 x4 => ⟨_, by walk_at "u", by walk_at "u"⟩)) (fun c L A' hA' => ⟨_, led, .loc (by walk_at "u") (.loc (by walk_at "u") (.loc (by walk_at "u") (.loc (by walk_at "u") (.loc (by walk_at "u") .nil)))), ?_⟩)
  have hh := hA'.handled
  walk_at "Y"
  refine two_dec (fun z => absurd z (Int.not_lt.mpr (Int.natCast_nonneg _))) (fun _ => ?_)
  walk_at "Y"
  refine two_no ?_
  walk_at "Y"
  refine two_no ?_
  refine Xs.cons ?_
  refine X1.whileS (σ := Nat × Nat) (fun s => [(S "a", .obj a), (S "x", .int x), (S "lo", .int (s.1 : Nat)), (S "hi", .int (s.2 : Nat)), (S "key", .obj 145)]) (fun _ => led)
    (fun n s => n = s.2 - s.1 ∧ lo ≤ s.1 ∧ s.1 ≤ s.2 ∧ s.2 ≤ hi ∧ (∀ i y, lo ≤ i → i < s.1 → (keysOf ps)[i]? = some y → y < x) ∧ (∀ i y, s.2 ≤ i → i < hi → (keysOf ps)[i]? = some y → x ≤ y)) (hi - lo) (lo, hi)
    ⟨rfl, Nat.le_refl _, h1, Nat.le_refl _, fun i y a1 a2 => absurd a2 (Nat.not_lt.mpr a1), fun i y a1 a2 => absurd a2 (Nat.not_lt.mpr a1)⟩ (by walk_at "has") rfl ?_
  rintro n ⟨l, h⟩ hP
  have g1 := hP.2.1
  have g2 := hP.2.2.1
  have g3 := hP.2.2.2.1
  have g4 := hP.2.2.2.2.1
  have g5 := hP.2.2.2.2.2
  obtain rfl := hP.1
  clear hP
  dsimp only at g1 g2 g3 g4 g5
  walk_at "Y"
  refine two_dec (fun z => ?_) (fun z => ?_)
  · walk_at "Y"
    refine BinQ.fdivI ?_ (by decide) (PyProof.noPylong_small (by decide))
    have z' : l < h := Int.ofNat_lt.mp z
    have hlm := (mid_in z').1
    have hmh := (mid_in z').2
    rw [mid_eq]
    revert hmh
    revert hlm
    refine gen ((l + h) / 2) fun md => ?_
    intro hlm hmh
    have hm1 : md < ps.length := Nat.lt_of_lt_of_le hmh (Nat.le_trans g3 h2)
    have em : ps[md]? = some ps[md] := List.getElem?_eq_getElem hm1
    have hmk : md < hi := Nat.lt_of_lt_of_le hmh g3
    walk_at "Y"
    refine ⟨⟨Int.natCast_nonneg _, ncl (Nat.le_trans (Nat.le_of_lt hm1) h3) (by decide)⟩, _, List.Mem.tail _ hm, _, (by rw [Int.toNat_natCast]; exact tks_get em), ?_⟩
    have ek := keysOf_get em
    revert ek
    revert em
    refine gen (ps[md]) fun p => ?_
    intro em ek
    walk_at "Y"
    refine Cl.fn (first_spec C (hA'.less (by decide))) ?_
    walk_at "Y"
    refine two_dec (fun z2 => ?_) (fun z2 => ?_)
    · walk_at "Y"
      refine ⟨h - (md + 1), (md + 1, h), Nat.sub_lt_sub_left z' (Nat.lt_succ_of_le hlm), ⟨rfl, Nat.le_succ_of_le (Nat.le_trans g1 hlm), hmh, g3, fun i y a1 a2 e => ?_, g5⟩, ?_, rfl⟩
      · exact Int.lt_of_le_of_lt (hs i md _ _ a1 (Nat.le_of_lt_succ a2) hmk e ek) z2
      · rw [show ((md : Nat) : Int) + 1 = ((md + 1 : Nat) : Int) from rfl]
        walk_at "has"
    · walk_at "Y"
      refine ⟨md - l, (l, md), Nat.sub_lt_sub_right hlm hmh, ⟨rfl, g1, hlm, Nat.le_of_lt hmk, g4, fun i y a1 a2 e => ?_⟩, by walk_at "has", rfl⟩
      exact Int.le_trans (Int.not_lt.mp z2) (hs _ _ _ _ (Nat.le_trans g1 hlm) a1 a2 ek e)
  · have z' : l = h := Nat.le_antisymm g2 (Nat.not_lt.mp fun q => z (Int.ofNat_lt.mpr q))
    subst z'
    walk_at "Y"
    exact ⟨led, List.Sublist.refl _, rfl, l, rfl, g1, g3, g4, g5⟩

set_option maxHeartbeats 4000000 in
theorem ins_spec {w : World} {h₀ : Heap} (C : Cx h₀ w.params) {A : Around} (hA : Rm A 4) {led : Led} {LL : List MV → Led} {a : Addr} {ps : List (Int × List MV)} {p : Int × List MV} {lo hi : Nat} (hm : (a, LC.list (tks ps)) ∈ led) (hL : ∀ ys, SetL led a (tks ps) ys (LL ys))
    (h1 : lo ≤ hi) (h2 : hi ≤ ps.length) (h3 : ps.length ≤ 2 ^ 20) (hs : SortedOn (keysOf ps) lo hi) :
    Cl pw w h₀ A led (.obj 40) [.obj a, tk p, .int lo, .int hi] [(S "key", .obj 145)] (fun l v => ∃ r : Nat, l = LL (tks (ps.take r ++ p :: ps.drop r)) ∧ v = .none ∧ IsBR (keysOf ps) p.1 lo hi r) := by
  have sz : sizeLine = 2 ^ 24 := rfl
  refine Cl.defC C.nol (.inl (C.inK _ _ (by walk_at "u"))) (codeOf C.inK (by walk_at "u")) hA (Binds.of_kwd [S "a", S "x", S "lo", S "hi", S "key"] (by walk_at "u") (C.inK _ _ (by walk_at "u")) (by walk_at "u") (fun v => all4 rfl fun x1 x2 x3 x4 => ⟨_, by walk_at "u", by walk_at "u"⟩)) (fun c L A' hA' => ⟨_, led, .loc (by walk_at "u") (.loc (by walk_at "u") (.loc (by walk_at "u") (.loc (by walk_at "u") (.loc (by walk_at "u") .nil)))), ?_⟩)
  have hh := hA'.handled
  walk_at "Y"
  refine two_no ?_
  refine Xs.cons (X1.assign (by walk_at "u") (by walk_at "u") (E1.callk ?_ (by walk_at "u")) (by walk_at "u"))
  walk_at "Y"
  refine Cl.fn (first_spec C (hA'.less (by decide))) ?_
  walk_at "Y"
  refine (br_spec C hA' (List.Mem.tail _ hm) h1 h2 h3 hs).mono ?_
  rintro l v ⟨rfl, r, rfl, hr⟩
  refine ⟨led, rfl, ?_⟩
  refine Xs.nil (Xs.cons (X1.expr (E1.meth meth_insert ?_ (by walk_at "u") (by walk_at "u") (by walk_at "u") (by decide)) (by walk_at "u") (by walk_at "u")))
  walk_at "Y"
  refine ⟨.inl ⟨_, List.Mem.tail _ hm, rfl⟩, ?_⟩
  walk_at "Y"
  have hr' : r ≤ ps.length := Nat.le_trans hr.2.1 h2
  refine b_insert (Int.natCast_nonneg r) (by rw [tks_len]; exact hr') (SetL.tail (hL _)) (by rw [tks_len]; lia) ⟨_, rfl, rfl, ?_⟩
  walk_at "Y"
  refine ⟨_, List.Sublist.refl _, r, ?_, rfl, hr⟩
  congr 1
  simp [tks]
end Mine

end

section
set_option maxRecDepth 100000
open PySem PySem.W PySem.Calls PyProof.Rows Yy
namespace Mine



set_option maxHeartbeats 4000000 in
/-- bisect_right(a, x), with nothing else said, over numbers that stand still -/
theorem br0_spec {w : World} {h₀ : Heap} (C : Cx h₀ w.params) {A : Around} (hA : Rm A 3) {led : Led} {ks : List Int} {x : Int} (h3 : ks.length ≤ 2 ^ 20) (hs : SortedOn ks 0 ks.length) :
    Cl pw w h₀ A led (.obj 49) [.lst (mi ks), .int x] [] (fun l v => l = led ∧ ∃ r : Nat, v = .int r ∧ IsBR ks x 0 ks.length r) := by
  refine Cl.defC C.nol (.inl (C.inK _ _ (by walk_at "u"))) (codeOf C.inK (by walk_at "u")) hA (Binds.of_dkd (dargs := [.int 0, .none, .none]) (D := 49 - 7) [S "a", S "x", S "lo", S "hi", S "key"] [.int 0 _, .none, .none] (fun B => .cons .int (.cons .none (.cons .none .nil))) (by walk_at "u") (C.inK _ _ (by walk_at "u")) (by walk_at "u") (C.inK _ _ (by walk_at "u")) (all2 rfl fun x1 x2 => ⟨_, _, _, by walk_at "u", by walk_at "u", by walk_at "u"⟩)) (fun c L A' hA' => ⟨_, led, .loc (by walk_at "u") (.loc (by walk_at "u") (.loc (by walk_at "u") (.loc (by walk_at "u") (.loc (by walk_at "u") .nil)))), ?_⟩)
  have hh := hA'.handled
  walk_at "Y"
  refine two_dec (fun z => absurd z (by decide)) (fun _ => ?_)
  walk_at "Y"
  refine two_yes ?_
  walk_at "Y"
  refine f_lenL (by rw [mi_len]; exact h3) ?_
  rw [mi_len]
  walk_at "Y"
  refine two_yes ?_
  refine Xs.cons ?_
  refine X1.whileS (σ := Nat × Nat) (fun s => [(S "a", .lst (mi ks)), (S "x", .int x), (S "lo", .int (s.1 : Nat)), (S "hi", .int (s.2 : Nat))]) (fun _ => led)
    (fun n s => n = s.2 - s.1 ∧ s.1 ≤ s.2 ∧ s.2 ≤ ks.length ∧ (∀ i y, 0 ≤ i → i < s.1 → ks[i]? = some y → y ≤ x) ∧ (∀ i y, s.2 ≤ i → i < ks.length → ks[i]? = some y → x < y)) ks.length (0, ks.length)
    ⟨rfl, Nat.zero_le _, Nat.le_refl _, fun i y a1 a2 => absurd a2 (Nat.not_lt.mpr a1), fun i y a1 a2 => absurd a2 (Nat.not_lt.mpr a1)⟩ (by walk_at "has") rfl ?_
  rintro n ⟨l, h⟩ hP
  have g2 := hP.2.1
  have g3 := hP.2.2.1
  have g4 := hP.2.2.2.1
  have g5 := hP.2.2.2.2
  obtain rfl := hP.1
  clear hP
  dsimp only at g2 g3 g4 g5
  walk_at "Y"
  refine two_dec (fun z => ?_) (fun z => ?_)
  · walk_at "Y"
    refine BinQ.fdivI ?_ (by decide) (PyProof.noPylong_small (by decide))
    have z' : l < h := Int.ofNat_lt.mp z
    have hlm := (mid_in z').1
    have hmh := (mid_in z').2
    rw [mid_eq]
    revert hmh
    revert hlm
    refine gen ((l + h) / 2) fun md => ?_
    intro hlm hmh
    have hm1 : md < ks.length := Nat.lt_of_lt_of_le hmh g3
    have em : ks[md]? = some ks[md] := List.getElem?_eq_getElem hm1
    walk_at "Y"
    refine ⟨⟨Int.natCast_nonneg _, ncl (Nat.le_trans (Nat.le_of_lt hm1) h3) (by decide)⟩, _, (by rw [Int.toNat_natCast]; exact mi_get em), ?_⟩
    revert em
    refine gen (ks[md]) fun y => ?_
    intro em
    walk_at "Y"
    refine two_dec (fun z2 => ?_) (fun z2 => ?_)
    · walk_at "Y"
      exact ⟨md - l, (l, md), Nat.sub_lt_sub_right hlm hmh, ⟨rfl, hlm, Nat.le_of_lt hm1, g4, fun i y a1 a2 e => Int.lt_of_lt_of_le z2 (hs _ _ _ _ (Nat.zero_le _) a1 a2 em e)⟩, by walk_at "has", rfl⟩
    · walk_at "Y"
      refine ⟨h - (md + 1), (md + 1, h), Nat.sub_lt_sub_left z' (Nat.lt_succ_of_le hlm), ⟨rfl, hmh, g3, fun i y a1 a2 e => Int.le_trans (hs i md _ _ a1 (Nat.le_of_lt_succ a2) hm1 e em) (Int.not_lt.mp z2), g5⟩, ?_, rfl⟩
      rw [show ((md : Nat) : Int) + 1 = ((md + 1 : Nat) : Int) from rfl]
      walk_at "has"
  · have z' : l = h := Nat.le_antisymm g2 (Nat.not_lt.mp fun q => z (Int.ofNat_lt.mpr q))
    subst z'
    walk_at "Y"
    exact ⟨led, List.Sublist.refl _, rfl, l, rfl, Nat.zero_le _, g3, g4, g5⟩

set_option maxHeartbeats 4000000 in
/-- bisect_left(a, x), the same -/
theorem bl0_spec {w : World} {h₀ : Heap} (C : Cx h₀ w.params) {A : Around} (hA : Rm A 3) {led : Led} {ks : List Int} {x : Int} (h3 : ks.length ≤ 2 ^ 20) (hs : SortedOn ks 0 ks.length) :
    Cl pw w h₀ A led (.obj 58) [.lst (mi ks), .int x] [] (fun l v => l = led ∧ ∃ r : Nat, v = .int r ∧ IsBL ks x 0 ks.length r) := by
  refine Cl.defC C.nol (.inl (C.inK _ _ (by walk_at "u"))) (codeOf C.inK (by walk_at "u")) hA (Binds.of_dkd (dargs := [.int 0, .none, .none]) (D := 58 - 7) [S "a", S "x", S "lo", S "hi", S "key"] [.int 0 _, .none, .none] (fun B => .cons .int (.cons .none (.cons .none .nil))) (by walk_at "u") (C.inK _ _ (by walk_at "u")) (by walk_at "u") (C.inK _ _ (by walk_at "u")) (all2 rfl fun x1 x2 => ⟨_, _, _, by walk_at "u", by walk_at "u", by walk_at "u"⟩)) (fun c L A' hA' => ⟨_, led, .loc (by walk_at "u") (.loc (by walk_at "u") (.loc (by walk_at "u") (.loc (by walk_at "u") (.loc (by walk_at "u") .nil)))), ?_⟩)
  have hh := hA'.handled
  walk_at "Y"
  refine two_dec (fun z => absurd z (by decide)) (fun _ => ?_)
  walk_at "Y"
  refine two_yes ?_
  walk_at "Y"
  refine f_lenL (by rw [mi_len]; exact h3) ?_
  rw [mi_len]
  walk_at "Y"
  refine two_yes ?_
  refine Xs.cons ?_
  refine X1.whileS (σ := Nat × Nat) (fun s => [(S "a", .lst (mi ks)), (S "x", .int x), (S "lo", .int (s.1 : Nat)), (S "hi", .int (s.2 : Nat))]) (fun _ => led)
    (fun n s => n = s.2 - s.1 ∧ s.1 ≤ s.2 ∧ s.2 ≤ ks.length ∧ (∀ i y, 0 ≤ i → i < s.1 → ks[i]? = some y → y < x) ∧ (∀ i y, s.2 ≤ i → i < ks.length → ks[i]? = some y → x ≤ y)) ks.length (0, ks.length)
    ⟨rfl, Nat.zero_le _, Nat.le_refl _, fun i y a1 a2 => absurd a2 (Nat.not_lt.mpr a1), fun i y a1 a2 => absurd a2 (Nat.not_lt.mpr a1)⟩ (by walk_at "has") rfl ?_
  rintro n ⟨l, h⟩ hP
  have g2 := hP.2.1
  have g3 := hP.2.2.1
  have g4 := hP.2.2.2.1
  have g5 := hP.2.2.2.2
  obtain rfl := hP.1
  clear hP
  dsimp only at g2 g3 g4 g5
  walk_at "Y"
  refine two_dec (fun z => ?_) (fun z => ?_)
  · walk_at "Y"
    refine BinQ.fdivI ?_ (by decide) (PyProof.noPylong_small (by decide))
    have z' : l < h := Int.ofNat_lt.mp z
    have hlm := (mid_in z').1
    have hmh := (mid_in z').2
    rw [mid_eq]
    revert hmh
    revert hlm
    refine gen ((l + h) / 2) fun md => ?_
    intro hlm hmh
    have hm1 : md < ks.length := Nat.lt_of_lt_of_le hmh g3
    have em : ks[md]? = some ks[md] := List.getElem?_eq_getElem hm1
    walk_at "Y"
    refine ⟨⟨Int.natCast_nonneg _, ncl (Nat.le_trans (Nat.le_of_lt hm1) h3) (by decide)⟩, _, (by rw [Int.toNat_natCast]; exact mi_get em), ?_⟩
    revert em
    refine gen (ks[md]) fun y => ?_
    intro em
    walk_at "Y"
    refine two_dec (fun z2 => ?_) (fun z2 => ?_)
    · walk_at "Y"
      refine ⟨h - (md + 1), (md + 1, h), Nat.sub_lt_sub_left z' (Nat.lt_succ_of_le hlm), ⟨rfl, hmh, g3, fun i y a1 a2 e => Int.lt_of_le_of_lt (hs i md _ _ a1 (Nat.le_of_lt_succ a2) hm1 e em) z2, g5⟩, ?_, rfl⟩
      rw [show ((md : Nat) : Int) + 1 = ((md + 1 : Nat) : Int) from rfl]
      walk_at "has"
    · walk_at "Y"
      exact ⟨md - l, (l, md), Nat.sub_lt_sub_right hlm hmh, ⟨rfl, hlm, Nat.le_of_lt hm1, g4, fun i y a1 a2 e => Int.le_trans (Int.not_lt.mp z2) (hs _ _ _ _ (Nat.zero_le _) a1 a2 em e)⟩, by walk_at "has", rfl⟩
  · have z' : l = h := Nat.le_antisymm g2 (Nat.not_lt.mp fun q => z (Int.ofNat_lt.mpr q))
    subst z'
    walk_at "Y"
    exact ⟨led, List.Sublist.refl _, rfl, l, rfl, Nat.zero_le _, g3, g4, g5⟩
end Mine

end

section
set_option maxRecDepth 100000
open PySem PySem.W PySem.Calls PyProof.Rows Yy
namespace Mine



noncomputable def lowC (c : Nat) : Nat := if 65 ≤ c ∧ c ≤ 90 then c + 32 else c
noncomputable def subC (c d : Nat) : Int := if c = d then 0 else if lowC c = lowC d then 1 else 2
/-- how long the common front is -/
noncomputable def cpre : List Nat → List Nat → Nat
  | x :: xs, y :: ys => if x = y then cpre xs ys + 1 else 0
  | _, _ => 0
noncomputable def rowStep (c : Nat) : List Nat → List Int → Int → Int → Int → List Int × Int × Int
  | d :: ds, r :: rs, dist, res, mn =>
    let res' := min (min res r + 2) (dist + subC c d)
    let q := rowStep c ds rs r res' (if res' < mn then res' else mn)
    (res' :: q.1, q.2)
  | _, _, _, res, mn => ([], res, mn)
noncomputable def rowsC (a : List Nat) (mc : Int) : List Nat → Nat → List Int → Int → Int
  | [], _, _, res => res
  | b :: bs, i, row, res =>
    let q := rowStep b a row (i * 2) (i * 2) 9223372036854775807
    if q.2.2 > mc then mc + 1 else rowsC a mc bs (i + 1) q.1 q.2.1
noncomputable def levT (a b : List Nat) (mc : Int) : Int :=
  if ((b.length : Int) - a.length) * 2 > mc then mc + 1
  else rowsC a mc b 0 ((List.range a.length).map fun i => 2 + (i : Nat) * 2) 0
noncomputable def lev2 (a b : List Nat) (mc : Int) : Int :=
  if a = [] ∨ b = [] then 2 * ((a.length : Int) + b.length)
  else if b.length < a.length then levT b a mc else levT a b mc
noncomputable def levM (a b : List Nat) (mc : Int) : Int :=
  let k := cpre a.reverse b.reverse
  lev2 (a.take (a.length - k)) (b.take (b.length - k)) mc
noncomputable def lev (a b : List Nat) (mc : Int) : Int :=
  if a = b then 0 else levM (a.drop (cpre a b)) (b.drop (cpre a b)) mc
theorem cpre_cons (x y : Nat) (xs ys : List Nat) : cpre (x :: xs) (y :: ys) = if x = y then cpre xs ys + 1 else 0 := rfl
theorem rowStep_cons (c d : Nat) (ds : List Nat) (r : Int) (rs : List Int) (dist res mn : Int) : rowStep c (d :: ds) (r :: rs) dist res mn =
    (min (min res r + 2) (dist + subC c d) :: (rowStep c ds rs r (min (min res r + 2) (dist + subC c d)) (if min (min res r + 2) (dist + subC c d) < mn then min (min res r + 2) (dist + subC c d) else mn)).1,
      (rowStep c ds rs r (min (min res r + 2) (dist + subC c d)) (if min (min res r + 2) (dist + subC c d) < mn then min (min res r + 2) (dist + subC c d) else mn)).2) := rfl
theorem rowsC_nil (a : List Nat) (mc : Int) (i : Nat) (row : List Int) (res : Int) : rowsC a mc [] i row res = res := rfl
theorem rowsC_cons (a : List Nat) (mc : Int) (b : Nat) (bs : List Nat) (i : Nat) (row : List Int) (res : Int) : rowsC a mc (b :: bs) i row res =
    (let q := rowStep b a row (i * 2) (i * 2) 9223372036854775807
    if q.2.2 > mc then mc + 1 else rowsC a mc bs (i + 1) q.1 q.2.1) := rfl
theorem cpre_drop (a b : List Nat) (k : Nat) (x y : Nat) (hx : a[k]? = some x) (hy : b[k]? = some y) : cpre (a.drop k) (b.drop k) = if x = y then cpre (a.drop (k + 1)) (b.drop (k + 1)) + 1 else 0 := by
  have h1 := (List.getElem?_eq_some_iff.mp hx)
  have h2 := (List.getElem?_eq_some_iff.mp hy)
  obtain ⟨l1, e1⟩ := h1
  obtain ⟨l2, e2⟩ := h2
  rw [List.drop_eq_getElem_cons l1, List.drop_eq_getElem_cons l2, cpre_cons, e1, e2]
theorem cpre_stop (a b : List Nat) (k : Nat) (h : a.drop k = [] ∨ b.drop k = []) : cpre (a.drop k) (b.drop k) = 0 := by
  rcases h with h | h <;> rw [h]
  · rfl
  · cases a.drop k <;> rfl
theorem rowStep_nil (c : Nat) (d r m : Int) : rowStep c [] [] d r m = ([], r, m) := rfl
theorem rowStep_len (c : Nat) : ∀ (ds : List Nat) (rs : List Int) (d r m : Int), ds.length = rs.length → (rowStep c ds rs d r m).1.length = rs.length
  | [], [], _, _, _, _ => rfl
  | _ :: ds, _ :: rs, _, _, _, h => by
    rw [rowStep_cons]
    simp only [List.length_cons]
    rw [rowStep_len c ds rs _ _ _ (by simpa using h)]
  | [], _ :: _, _, _, _, h => by simp at h
  | _ :: _, [], _, _, _, h => by simp at h

theorem low128 : ∀ c, c < 128 → Txt.lower ⟨#[c]⟩ = ⟨#[lowC c]⟩ := by decide +kernel
theorem meth_lower : MethS "str" "lower" "str.lower" := ⟨F.plainAttrs_str, F.slot_str_lower, F.type_str_lower⟩
section
variable {w : World} {h₀ : Heap} {A : Around} {led : Led}
theorem cl_lower {x : Str} {Q : Led → MV → Prop} (hfit : Builtin.Str.tooLong (Txt.lower x).length = false) (h : Q led (.str (Txt.lower x))) : Cl pw w h₀ A led (.bi "str.lower") [.str x] [] Q :=
  ⟨trivial, fun B fv vs ks rf rs rk s K H k => by
    cases rf; cases rk; cases rs with | cons r rs => cases rs; cases r; exact PySem.SC.lower hfit (k B s.heap _ _ _ (Le.refl _) H ⟨_, .str, h⟩)⟩
theorem cl_low {c : Nat} {Q : Led → MV → Prop} (hc : c < 128) (h : Q led (.str ⟨#[lowC c]⟩)) : Cl pw w h₀ A led (.bi "str.lower") [.str ⟨#[c]⟩] [] Q := by
  have e := low128 c hc
  exact cl_lower (by rw [e]; rfl) (by rw [e]; exact h)
end

theorem sub_spec {w : World} {h₀ : Heap} (C : Cx h₀ w.params) {A : Around} (hA : Rm A 1) {led : Led} {c d : Nat} (hc : c < 128) (hd : d < 128) :
    Cl pw w h₀ A led (.obj 124) [.str (St [c]), .str (St [d])] [] (fun l x => l = led ∧ x = .int (subC c d)) := by
  refine Cl.def C.nol (.inl (C.inK _ _ (by walk_at "u"))) (codeOf C.inK (by walk_at "u")) hA (Binds.of_eq [S "ch_a", S "ch_b"] (all2 rfl fun x y => by walk_at "u")) (fun L A' hA' => ?_)
  walk_at "Y"
  refine two_dec (fun h => ?_) (fun h => ?_)
  · walk_at "Y"
    refine ⟨rfl, ?_⟩
    rw [subC, if_pos (by simpa using h)]
  · walk_at "Y"
    refine E1.meth meth_lower ?_
    walk_at "Y"
    refine ⟨rfl, cl_low hc ⟨_, rfl, ?_⟩⟩
    refine E1.meth meth_lower ?_
    walk_at "Y"
    refine ⟨rfl, cl_low hd ⟨_, rfl, ?_⟩⟩
    walk_at "Y"
    refine two_dec (fun g => ?_) (fun g => ?_)
    · walk_at "Y"
      refine ⟨rfl, ?_⟩
      rw [subC, if_neg (by simpa using h), if_pos (by simpa using g)]
    · walk_at "Y"
      refine ⟨rfl, ?_⟩
      rw [subC, if_neg (by simpa using h), if_neg (by simpa using g)]

theorem small41 : ∀ n : Nat, n < 41 → Builtin.Range.small 2 (2 * ((n : Int) + 1)) 2 = true ∧ Builtin.Range.rangeSize 2 (2 * ((n : Int) + 1)) 2 = (n : Nat) := by decide +kernel
theorem small2 {n : Nat} (h : n ≤ 40) : Builtin.Range.small 2 (2 * ((n : Int) + 1)) 2 = true ∧ Builtin.Range.rangeSize 2 (2 * ((n : Int) + 1)) 2 = (n : Nat) := small41 n (Nat.lt_succ_of_le h)

set_option maxHeartbeats 4000000 in
theorem lev_spec {w : World} {h₀ : Heap} (C : Cx h₀ w.params) {A : Around} (hA : Rm A 3) {led : Led} {a b : List Nat} (ha : ∀ c ∈ a, c < 128) (hb : ∀ c ∈ b, c < 128) (la : a.length ≤ 40) (lb : b.length ≤ 40) {mc : Int} :
    Cl pw w h₀ A led (.obj 131) [.str (St a), .str (St b), .int mc] [] (fun l x => l = led ∧ x = .int (lev a b mc)) := by
  have sz : sizeLine = 2 ^ 24 := rfl
  refine Cl.defC C.nol (.inl (C.inK _ _ (by walk_at "u"))) (codeOf C.inK (by walk_at "u")) hA (Binds.of_eq [S "a", S "b", S "max_cost"] (all3 rfl fun x y z => by walk_at "u")) (fun c L A' hA' => ⟨_, led, .loc (by walk_at "u") (.loc (by walk_at "u") (.loc (by walk_at "u") .nil)), ?_⟩)
  have hh := hA'.handled
  walk_at "Y"
  refine two_dec (fun h => ?_) (fun h => ?_)
  · walk_at "Y"
    refine ⟨_, List.Sublist.refl _, rfl, ?_⟩
    rw [lev, if_pos (St.inj.mp h)]
  have hne : ¬ a = b := fun e => h (by rw [e])
  walk_at "Y"
  -- the common front
  refine X1.cut [(S "pre", .int (cpre a b : Nat)), (S "a", .str (St a)), (S "b", .str (St b)), (S "max_cost", .int mc)] led ?_ ?_
  · refine X1.whileS (σ := Nat) (fun k => [(S "pre", .int (k : Nat)), (S "a", .str (St a)), (S "b", .str (St b)), (S "max_cost", .int mc)]) (fun _ => led) (fun n k => n = a.length - k ∧ k ≤ a.length ∧ k ≤ b.length ∧ cpre a b = k + cpre (a.drop k) (b.drop k)) a.length 0 ⟨by simp, by simp, by simp, by simp⟩ (by walk_at "has") rfl ?_
    intro n k hP
    have h1 := hP.2.1
    have h2 := hP.2.2.1
    have h3 := hP.2.2.2
    obtain rfl := hP.1
    clear hP
    walk_at "Y"
    refine SlQ.sFrom (by walk_at "le") (TruQ.s (by walk_at "le") (two_dec (fun g1 => ?_) (fun g1 => ?_)))
    · walk_at "Y"
      refine SlQ.sFrom (by walk_at "le") (TruQ.s (by walk_at "le") (two_dec (fun g2 => ?_) (fun g2 => ?_)))
      · have k1 : k < a.length := by
          rcases Nat.lt_or_ge k a.length with z | z
          · exact z
          · exact absurd (List.drop_of_length_le z) g1
        have k2 : k < b.length := by
          rcases Nat.lt_or_ge k b.length with z | z
          · exact z
          · exact absurd (List.drop_of_length_le z) g2
        have e1 : a[k]? = some a[k] := by simp [k1]
        have e2 : b[k]? = some b[k] := by simp [k2]
        walk_at "Y"
        refine SubQ.s (to62 (Nat.le_trans (Nat.le_of_lt k1) la)) e1 ?_
        walk_at "Y"
        refine SubQ.s (to62 (Nat.le_trans (Nat.le_of_lt k2) lb)) e2 ?_
        walk_at "Y"
        refine two_dec (fun g3 => ?_) (fun g3 => ?_)
        · walk_at "Y"
          refine two_yes ?_
          walk_at "Y"
          refine ⟨a.length - (k + 1), k + 1, Nat.sub_lt_sub_left k1 (Nat.lt_succ_self k), ⟨rfl, k1, k2, ?_⟩, ?_, rfl⟩
          · rw [cpre_drop a b k _ _ e1 e2, if_pos (by simpa using g3)] at h3
            lia
          · rw [show (k : Int) + 1 = ((k + 1 : Nat) : Int) from rfl]
            walk_at "has"
        · refine two_no ⟨?_, rfl⟩
          rw [cpre_drop a b k _ _ e1 e2, if_neg (by simpa using g3)] at h3
          rw [h3]
          walk_at "has"
      · refine two_no ⟨?_, rfl⟩
        rw [cpre_stop a b k (.inr (by simpa using g2))] at h3
        rw [h3]
        walk_at "has"
    · refine two_no ⟨?_, rfl⟩
      rw [cpre_stop a b k (.inl (by simpa using g1))] at h3
      rw [h3]
      walk_at "has"
  have hlev : lev a b mc = levM (a.drop (cpre a b)) (b.drop (cpre a b)) mc := by rw [lev, if_neg hne]
  rw [hlev]
  clear hlev hne h
  refine gen (cpre a b) fun p => ?_
  walk_at "Y"
  refine SlQ.sFrom (by walk_at "le") ?_
  walk_at "Y"
  refine SlQ.sFrom (by walk_at "le") ?_
  have ha1 : ∀ c ∈ a.drop p, c < 128 := fun c hc => ha c (List.mem_of_mem_drop hc)
  have hb1 : ∀ c ∈ b.drop p, c < 128 := fun c hc => hb c (List.mem_of_mem_drop hc)
  have la1 : (a.drop p).length ≤ 40 := by rw [List.length_drop]; exact Nat.le_trans (Nat.sub_le _ _) la
  have lb1 : (b.drop p).length ≤ 40 := by rw [List.length_drop]; exact Nat.le_trans (Nat.sub_le _ _) lb
  revert la1
  revert ha1
  refine gen (a.drop p) fun a1 => ?_
  intro ha1 la1
  revert lb1
  revert hb1
  refine gen (b.drop p) fun b1 => ?_
  intro hb1 lb1
  clear ha hb la lb
  walk_at "Y"
  -- the common end
  have hrev : ∀ (x : List Nat) (k : Nat), k < x.length → x[x.length - (k + 1)]? = x.reverse[k]? := fun x k hk => by
    rw [List.getElem?_reverse hk, Nat.add_comm k 1, Nat.sub_add_eq]
  refine X1.cut [(S "post", .int (-((cpre a1.reverse b1.reverse : Nat) : Int))), (S "a", .str (St a1)), (S "b", .str (St b1)), (S "max_cost", .int mc)] led ?_ ?_
  · refine X1.whileS (σ := Nat) (fun k => [(S "post", .int (-((k : Nat) : Int))), (S "a", .str (St a1)), (S "b", .str (St b1)), (S "max_cost", .int mc)]) (fun _ => led) (fun n k => n = a1.length - k ∧ k ≤ a1.length ∧ k ≤ b1.length ∧ cpre a1.reverse b1.reverse = k + cpre (a1.reverse.drop k) (b1.reverse.drop k)) a1.length 0 ⟨by simp, by simp, by simp, by simp⟩ (by walk_at "has") rfl ?_
    intro n k hP
    have h1 := hP.2.1
    have h2 := hP.2.2.1
    have h3 := hP.2.2.2
    obtain rfl := hP.1
    clear hP
    refine T1.and (T1.plain (E1.upto (k := k) (by walk_at "u") (by walk_at "u") (by walk_at "u") (by decide) ?_ (by intro _ _; walk_at "u")) (by walk_at "u"))
    walk_at "Y"
    refine ⟨a1, rfl, by walk_at "le", TruQ.s (by walk_at "le") (two_dec (fun g1 => ?_) (fun g1 => ?_))⟩
    · have k1 : k < a1.length := by
        rcases Nat.lt_or_ge k a1.length with z | z
        · exact z
        · exact absurd (by rw [show a1.length - k = 0 by lia, List.take_zero]) g1
      refine T1.and (T1.plain (E1.upto (k := k) (by walk_at "u") (by walk_at "u") (by walk_at "u") (by decide) ?_ (by intro _ _; walk_at "u")) (by walk_at "u"))
      walk_at "Y"
      refine ⟨b1, rfl, by walk_at "le", TruQ.s (by walk_at "le") (two_dec (fun g2 => ?_) (fun g2 => ?_))⟩
      · have k2 : k < b1.length := by
          rcases Nat.lt_or_ge k b1.length with z | z
          · exact z
          · exact absurd (by rw [show b1.length - k = 0 by lia, List.take_zero]) g2
        have e1 : a1.reverse[k]? = some (a1.reverse[k]'(by simpa using k1)) := by simp [k1]
        have e2 : b1.reverse[k]? = some (b1.reverse[k]'(by simpa using k2)) := by simp [k2]
        have e3 : -(k : Int) - 1 = -((k + 1 : Nat) : Int) := Int.neg_add.symm
        walk_at "Y"
        rw [e3]
        refine SubQ.sNeg (Nat.succ_le_succ (Nat.zero_le k)) k1 (to62 la1) ((hrev a1 k k1).trans e1) ?_
        walk_at "Y"
        rw [e3]
        refine SubQ.sNeg (Nat.succ_le_succ (Nat.zero_le k)) k2 (to62 lb1) ((hrev b1 k k2).trans e2) ?_
        walk_at "Y"
        refine two_dec (fun g3 => ?_) (fun g3 => ?_)
        · walk_at "Y"
          refine two_yes ?_
          walk_at "Y"
          refine ⟨a1.length - (k + 1), k + 1, Nat.sub_lt_sub_left k1 (Nat.lt_succ_self k), ⟨rfl, k1, k2, ?_⟩, ?_, rfl⟩
          · rw [cpre_drop _ _ k _ _ e1 e2, if_pos (by simpa using g3)] at h3
            lia
          · rw [e3]
            walk_at "has"
        · refine two_no ⟨?_, rfl⟩
          rw [cpre_drop _ _ k _ _ e1 e2, if_neg (by simpa using g3)] at h3
          rw [h3]
          walk_at "has"
      · refine two_no ⟨?_, rfl⟩
        rw [cpre_stop _ _ k (.inr (by rw [List.drop_eq_nil_iff, List.length_reverse]; have := congrArg List.length (Classical.not_not.mp g2); simp at this; lia))] at h3
        rw [h3]
        walk_at "has"
    · refine two_no ⟨?_, rfl⟩
      rw [cpre_stop _ _ k (.inl (by rw [List.drop_eq_nil_iff, List.length_reverse]; have := congrArg List.length (Classical.not_not.mp g1); simp at this; lia))] at h3
      rw [h3]
      walk_at "has"
  rw [levM]
  refine gen (cpre a1.reverse b1.reverse) fun k => ?_
  refine Xs.cons (X1.assign (by walk_at "u") (by walk_at "u") (E1.upto (k := k) (by walk_at "u") (by walk_at "u") (by walk_at "u") (by decide) ?_ (by intro _ _; walk_at "u")) (by walk_at "u"))
  walk_at "Y"
  refine ⟨a1, rfl, by walk_at "le", ?_⟩
  refine Xs.cons (X1.assign (by walk_at "u") (by walk_at "u") (E1.upto (k := k) (by walk_at "u") (by walk_at "u") (by walk_at "u") (by decide) ?_ (by intro _ _; walk_at "u")) (by walk_at "u"))
  walk_at "Y"
  refine ⟨b1, rfl, by walk_at "le", ?_⟩
  have ha2 : ∀ c ∈ a1.take (a1.length - k), c < 128 := fun c hc => ha1 c (List.mem_of_mem_take hc)
  have hb2 : ∀ c ∈ b1.take (b1.length - k), c < 128 := fun c hc => hb1 c (List.mem_of_mem_take hc)
  have la2 : (a1.take (a1.length - k)).length ≤ 40 := by rw [List.length_take]; exact Nat.le_trans (Nat.min_le_right _ _) la1
  have lb2 : (b1.take (b1.length - k)).length ≤ 40 := by rw [List.length_take]; exact Nat.le_trans (Nat.min_le_right _ _) lb1
  show Xs _ _ _ _ _ _ _ _ _ (Dr fun l x => l = led ∧ x = .int (lev2 (a1.take (a1.length - k)) (b1.take (b1.length - k)) mc))
  revert la2
  revert ha2
  refine gen (a1.take (a1.length - k)) fun a2 => ?_
  intro ha2 la2
  revert lb2
  revert hb2
  refine gen (b1.take (b1.length - k)) fun b2 => ?_
  intro hb2 lb2
  clear ha1 hb1 la1 lb1 hrev
  refine Xs.has (F := [(S "a", .str (St a2)), (S "b", .str (St b2)), (S "max_cost", .int mc)]) (by walk_at "has") ?_
  -- nothing is left of one of them
  walk_at "Y"
  refine TruQ.s (by walk_at "le") ?_
  have hz1 : IntMulOk 2 ((a2.length : Int) + b2.length) := IntMulOk.of_left (by decide)
  refine two_not (fun g => ?_) (fun g => ?_)
  · walk_at "Y"
    refine two_yes ?_
    walk_at "Y"
    refine f_len (by walk_at "le") ?_
    walk_at "Y"
    refine f_len (by walk_at "le") ?_
    walk_at "Y"
    refine BinQ.mulI ⟨_, List.Sublist.refl _, rfl, ?_⟩ hz1
    rw [lev2, if_pos (.inl (by simpa using g))]
  walk_at "Y"
  refine TruQ.s (by walk_at "le") ?_
  refine two_not (fun g' => ?_) (fun g' => ?_)
  · walk_at "Y"
    refine two_yes ?_
    walk_at "Y"
    refine f_len (by walk_at "le") ?_
    walk_at "Y"
    refine f_len (by walk_at "le") ?_
    walk_at "Y"
    refine BinQ.mulI ⟨_, List.Sublist.refl _, rfl, ?_⟩ hz1
    rw [lev2, if_pos (.inr (by simpa using g'))]
  walk_at "Y"
  refine two_no ?_
  walk_at "Y"
  refine f_len (by walk_at "le") ?_
  walk_at "Y"
  refine two_dec (fun z => absurd z (by lia)) (fun _ => ?_)
  walk_at "Y"
  refine f_len (by walk_at "le") ?_
  walk_at "Y"
  refine two_dec (fun z => absurd z (by lia)) (fun _ => ?_)
  walk_at "Y"
  refine two_no ?_
  refine Xs.nil (Xs.cons ?_)
  -- the shorter first
  have hl2 : lev2 a2 b2 mc = levT (if b2.length < a2.length then b2 else a2) (if b2.length < a2.length then a2 else b2) mc := by
    rw [lev2, if_neg (by rintro (z | z) <;> simp_all)]
    split <;> rfl
  rw [hl2]
  refine X1.cut [(S "a", .str (St (if b2.length < a2.length then b2 else a2))), (S "b", .str (St (if b2.length < a2.length then a2 else b2))), (S "max_cost", .int mc)] led ?_ ?_
  · walk_at "Y"
    refine f_len (by walk_at "le") ?_
    walk_at "Y"
    refine f_len (by walk_at "le") ?_
    walk_at "Y"
    refine two_dec (fun z => ?_) (fun z => ?_)
    · have z' : b2.length < a2.length := by lia
      rw [if_pos z', if_pos z']
      refine Xs.cons (X1.swap hA'.handled (by walk_at "u") (by walk_at "u") (by walk_at "u") (E1.tup ?_ (by decide) (by walk_at "u")) (by walk_at "u") (by walk_at "u"))
      refine E1.loc (by walk_at "u") (by walk_at "u") (by walk_at "u") (E1.loc (by walk_at "u") (by walk_at "u") (by walk_at "u") ?_)
      refine ⟨_, _, rfl, ?_⟩
      walk_at "Y"
      exact ⟨by walk_at "has", rfl⟩
    · have z' : ¬ b2.length < a2.length := by lia
      rw [if_neg z', if_neg z']
      walk_at "Y"
      exact ⟨by walk_at "has", rfl⟩
  have ha3 : ∀ c ∈ (if b2.length < a2.length then b2 else a2), c < 128 := by split <;> assumption
  have hb3 : ∀ c ∈ (if b2.length < a2.length then a2 else b2), c < 128 := by split <;> assumption
  have la3 : (if b2.length < a2.length then b2 else a2).length ≤ 40 := by split <;> assumption
  have lb3 : (if b2.length < a2.length then a2 else b2).length ≤ 40 := by split <;> assumption
  have lab : (if b2.length < a2.length then b2 else a2).length ≤ (if b2.length < a2.length then a2 else b2).length := by split <;> lia
  have ne3 : (if b2.length < a2.length then b2 else a2) ≠ [] := by split <;> assumption
  revert ne3
  revert lab
  revert la3
  revert ha3
  refine gen ((if b2.length < a2.length then b2 else a2)) fun a3 => ?_
  intro ha3 la3 lab ne3
  revert lab
  revert lb3
  revert hb3
  refine gen ((if b2.length < a2.length then a2 else b2)) fun b3 => ?_
  intro hb3 lb3 lab
  clear hl2 hz1 ha2 hb2 la2 lb2
  walk_at "Y"
  refine f_len (by walk_at "le") ?_
  walk_at "Y"
  refine f_len (by walk_at "le") ?_
  walk_at "Y"
  refine BinQ.mulI ?_ (IntMulOk.of_right (by decide))
  walk_at "Y"
  refine two_dec (fun z => ?_) (fun z => ?_)
  · walk_at "Y"
    refine ⟨_, List.Sublist.refl _, rfl, ?_⟩
    rw [levT, if_pos z]
  have hl3 : levT a3 b3 mc = rowsC a3 mc b3 0 ((List.range a3.length).map fun i => 2 + (i : Nat) * 2) 0 := by rw [levT, if_neg z]
  rw [hl3]
  walk_at "Y"
  refine f_len (by walk_at "le") ?_
  walk_at "Y"
  refine BinQ.mulI ?_ (IntMulOk.of_left (by decide))
  walk_at "Y"
  refine b_range3 (by decide) (PyProof.noPylong_small (by decide)) fun r => ?_
  refine Es.ni ?_
  have hsm := (small2 la3).1
  have hrs := (small2 la3).2
  refine b_list_range (n := a3.length) hh ?_ ?_ (by lia) (NewL.own (fun R => ?_) (by simp [mi]; lia))
  · exact hsm
  · exact hrs
  refine Xs.cons (X1.assign (by walk_at "u") (by walk_at "u") (E1.int ?_) (by walk_at "u"))
  refine Xs.cons ?_
  have ne3' : 0 < a3.length := by cases a3 with | nil => exact absurd rfl ne3 | cons _ _ => simp
  clear hl3 z
  refine genE (((List.range a3.length).map fun i => 2 + ((i : Nat) : Int) * 2)) fun row0 hrow => ?_
  have lrow : row0.length = a3.length := by rw [← hrow]; simp
  -- the rows
  refine X1.for (It1.rng hh ?_) (by intro _; walk_at "u")
  walk_at "Y"
  refine ⟨rfl, ?_⟩
  walk_at "Y"
  refine f_len (by walk_at "le") ⟨b3.length, rfl, by walk_at "le", ?_⟩
  refine ForR.rng (σ := List Int × Int) (fun _ s => [(S "a", .str (St a3)), (S "b", .str (St b3)), (S "max_cost", .int mc), (S "row", .obj R), (S "result", .int s.2)]) (fun _ s => (R, .list (mi s.1)) :: led)
    (fun i s => s.1.length = a3.length ∧ rowsC a3 mc (b3.drop i) i s.1 s.2 = rowsC a3 mc b3 0 row0 0) (row0, 0) ⟨lrow, by simp⟩ (by walk_at "has") rfl ?_ ?_
  · rintro i ⟨rs, res⟩ hi' hP
    have hrs := hP.1
    have hfin := hP.2
    clear hP
    dsimp only at hrs hfin
    have e1 : b3[i]? = some b3[i] := by simp [hi']
    refine As.loc (by walk_at "u") (by walk_at "u") ?_
    walk_at "Y"
    refine SubQ.s (to62 (Nat.le_trans (Nat.le_of_lt hi') lb3)) e1 ?_
    refine Xs.cons (X1.assign2 (by walk_at "u") (by walk_at "u") (by walk_at "u") ?_ (by walk_at "u") (by walk_at "u"))
    walk_at "Y"
    refine BinQ.mulI ?_ (IntMulOk.of_right (by decide))
    walk_at "Y"
    rw [List.drop_eq_getElem_cons hi', rowsC_cons] at hfin
    have hc : b3[i] < 128 := hb3 _ (List.getElem_mem hi')
    revert e1
    revert hfin
    revert hc
    refine gen (b3[i]) fun ch => ?_
    intro hc hfin e1
    -- one row
    refine X1.cut [(S "a", .str (St a3)), (S "b", .str (St b3)), (S "max_cost", .int mc), (S "row", .obj R), (S "result", .int (rowStep ch a3 rs (i * 2) (i * 2) 9223372036854775807).2.1), (S "minimum", .int (rowStep ch a3 rs (i * 2) (i * 2) 9223372036854775807).2.2)]
      ((R, .list (mi (rowStep ch a3 rs (i * 2) (i * 2) 9223372036854775807).1)) :: led) ?_ ?_
    · refine X1.for (It1.rng hh ?_) (by intro _; walk_at "u")
      walk_at "Y"
      refine ⟨rfl, ?_⟩
      walk_at "Y"
      refine f_len (by walk_at "le") ⟨a3.length, rfl, by walk_at "le", ?_⟩
      refine ForR.rng (σ := List Int × List Int × Int × Int × Int) (fun _ s => [(S "a", .str (St a3)), (S "b", .str (St b3)), (S "max_cost", .int mc), (S "row", .obj R), (S "bchar", .str (St [ch])), (S "distance", .int s.2.2.1), (S "result", .int s.2.2.2.1), (S "minimum", .int s.2.2.2.2)]) (fun _ s => (R, .list (mi (s.1 ++ s.2.1))) :: led)
        (fun j s => s.1.length = j ∧ j + s.2.1.length = a3.length ∧ s.1 ++ (rowStep ch (a3.drop j) s.2.1 s.2.2.1 s.2.2.2.1 s.2.2.2.2).1 = (rowStep ch a3 rs (i * 2) (i * 2) 9223372036854775807).1 ∧ (rowStep ch (a3.drop j) s.2.1 s.2.2.1 s.2.2.2.1 s.2.2.2.2).2 = (rowStep ch a3 rs (i * 2) (i * 2) 9223372036854775807).2)
        ([], rs, i * 2, i * 2, 9223372036854775807) ⟨rfl, by simpa using hrs, by simp, by simp⟩ (by walk_at "has") rfl ?_ ?_
      · intro j s hj' hP
        revert hP
        refine pr5 s fun dn rt dist res mn hP => ?_
        have h1 := hP.1
        have h2 := hP.2.1
        have h3 := hP.2.2.1
        have h4 := hP.2.2.2
        clear hP
        dsimp only at h1 h2 h3 h4 ⊢
        have e2 : a3[j]? = some a3[j] := by simp [hj']
        have hd : a3[j] < 128 := ha3 _ (List.getElem_mem hj')
        rw [List.drop_eq_getElem_cons hj'] at h3 h4
        cases rt with
        | nil => simp at h2; lia
        | cons x rt =>
          rw [rowStep_cons] at h3 h4
          generalize a3[j] = cd at hd e2 h3 h4
          have e3 : (dn ++ x :: rt)[j]? = some x := by rw [← h1]; simp
          refine As.loc (by walk_at "u") (by walk_at "u") ?_
          walk_at "Y"
          refine SubQ.s (to62 (Nat.le_trans (Nat.le_of_lt hj') la3)) e2 ?_
          refine Es.ni (Cl.fn (sub_spec C (hA'.less (by decide)) hc hd) ?_)
          walk_at "Y"
          have hj3 := ix hj' (to20 la3)
          refine ⟨hj3, _, List.Mem.tail _ (List.Mem.head _), _, mi_get (by simpa using e3), ?_⟩
          walk_at "Y"
          refine f_min2 hh ?_
          walk_at "Y"
          refine f_min2 hh ?_
          refine Xs.cons (X1.store' ?_ (by walk_at "u"))
          walk_at "Y"
          refine ⟨R, j, _, _, rfl, rfl, SetL.head, ⟨hj3.1, ?_, hj3.2⟩, ?_⟩
          · simp [mi]; lia
          rw [mi_set, show (dn ++ x :: rt).set ((j : Int)).toNat (min (min res x + 2) (dist + subC ch cd)) = (dn ++ [min (min res x + 2) (dist + subC ch cd)]) ++ rt by
            rw [Int.toNat_natCast, ← h1]; simp]
          walk_at "Y"
          refine two_dec (fun z => ?_) (fun z => ?_)
          · walk_at "Y"
            refine ⟨(dn ++ [min (min res x + 2) (dist + subC ch cd)], rt, x, min (min res x + 2) (dist + subC ch cd), min (min res x + 2) (dist + subC ch cd)), ⟨by simp [h1], by simp at h2 ⊢; lia, ?_, ?_⟩, by walk_at "has", rfl⟩
            · rw [← h3, if_pos z]; simp
            · rw [← h4, if_pos z]
          · walk_at "Y"
            refine ⟨(dn ++ [min (min res x + 2) (dist + subC ch cd)], rt, x, min (min res x + 2) (dist + subC ch cd), mn), ⟨by simp [h1], by simp at h2 ⊢; lia, ?_, ?_⟩, by walk_at "has", rfl⟩
            · rw [← h3, if_neg z]; simp
            · rw [← h4, if_neg z]
      · rintro m' ⟨dn, rt, dist, res, mn⟩ ⟨h1, h2, h3, h4⟩ hm
        dsimp only at h1 h2 h3 h4
        have : rt = [] := List.length_eq_zero_iff.mp (by lia)
        subst this
        rw [List.drop_length, rowStep_nil] at h3 h4
        refine ⟨?_, ?_⟩
        · rw [← h4]
          refine Has.trans hm ?_
          walk_at "has"
        · rw [← h3]
    · have lq : (rowStep ch a3 rs (i * 2) (i * 2) 9223372036854775807).1.length = a3.length := (rowStep_len ch a3 rs _ _ _ hrs.symm).trans hrs
      revert lq
      revert hfin
      refine gen (rowStep ch a3 rs (i * 2) (i * 2) 9223372036854775807) fun q => ?_
      intro hfin lq
      walk_at "Y"
      refine two_dec (fun z => ?_) (fun z => ?_)
      · walk_at "Y"
        refine ⟨led, List.sublist_cons_self _ _, rfl, ?_⟩
        rw [← hfin]
        simp only [if_pos z]
      · walk_at "Y"
        refine ⟨(q.1, q.2.1), ⟨lq, ?_⟩, by walk_at "has", rfl⟩
        rw [← hfin]
        simp only [if_neg z]
  · rintro m' ⟨rs, res⟩ ⟨hrs, hfin⟩ hm
    dsimp only at hrs hfin
    rw [List.drop_length, rowsC_nil] at hfin
    refine Xs.has hm ?_
    walk_at "Y"
    exact ⟨led, List.sublist_cons_self _ _, rfl, by rw [← hfin]⟩
end Mine

end

section
set_option maxRecDepth 100000
open PySem PySem.W PySem.Calls PyProof.Rows Yy
namespace Mine

/-! ### law 2: the least over all chains of like signs -/
noncomputable abbrev Ch := Nat × Nat × Int
/-- what leads to a place by way of an earlier chain -/
noncomputable def via (h l : Nat) (p : Ch) : Int := p.2.2 + 2 * max ((h : Int) - p.1) ((l : Int) - p.2.1) - 2
noncomputable def chOk (h l : Nat) (p : Ch) : Bool := decide (p.1 < h) && decide (p.2.1 < l)
noncomputable def costOf (ch : List Ch) (h l : Nat) : Int := ((ch.filter (chOk h l)).map (via h l)).foldl min (2 * max (h : Int) l)
noncomputable def stp (n k h a : Nat) (s : Int × List Ch) (p : Nat × Nat) : Int × List Ch :=
  if lowC a = lowC p.1 then
    let c := costOf s.2 h p.2 + (if a = p.1 then 0 else 1)
    (min s.1 (c + 2 * max ((n : Int) - h) ((k : Int) - p.2) - 2), s.2 ++ [(h, p.2, c)])
  else s
noncomputable def farRow (n k h a : Nat) (s : Int × List Ch) (b : List Nat) : Int × List Ch := b.zipIdx.foldl (stp n k h a) s
noncomputable def farTo (a b : List Nat) (i : Nat) : Int × List Ch := (a.take i).zipIdx.foldl (fun s p => farRow a.length b.length p.2 p.1 s b) (2 * max (a.length : Int) b.length, [])
noncomputable def far (a b : List Nat) : Int := (farTo a b a.length).1
noncomputable def farOk (m c d : Nat) : Bool :=
  let x := far (rowS c m) (rowS d m)
  lev (rowS c m) (rowS d m) x == x && lev (rowS d m) (rowS c m) (x - 1) == x && decide (0 ≤ x) && decide (x ≤ 10) && (decide (x ≠ 0) || decide (rowS c m = rowS d m))
theorem far40_00 : ∀ c < 10, ∀ d < 40, farOk (0 + 1) (10 * 0 + c) d = true := by decide +kernel
theorem far40_01 : ∀ c < 10, ∀ d < 40, farOk (0 + 1) (10 * 1 + c) d = true := by decide +kernel
theorem far40_02 : ∀ c < 10, ∀ d < 40, farOk (0 + 1) (10 * 2 + c) d = true := by decide +kernel
theorem far40_03 : ∀ c < 10, ∀ d < 40, farOk (0 + 1) (10 * 3 + c) d = true := by decide +kernel
theorem far40_10 : ∀ c < 10, ∀ d < 40, farOk (1 + 1) (10 * 0 + c) d = true := by decide +kernel
theorem far40_11 : ∀ c < 10, ∀ d < 40, farOk (1 + 1) (10 * 1 + c) d = true := by decide +kernel
theorem far40_12 : ∀ c < 10, ∀ d < 40, farOk (1 + 1) (10 * 2 + c) d = true := by decide +kernel
theorem far40_13 : ∀ c < 10, ∀ d < 40, farOk (1 + 1) (10 * 3 + c) d = true := by decide +kernel
theorem far40 : ∀ m < 2, ∀ c < 40, ∀ d < 40, farOk (m + 1) c d = true := by
  intro m hm c hc d hd
  have h : ∀ m < 2, ∀ k < 4, ∀ c < 10, ∀ d < 40, farOk (m + 1) (10 * k + c) d = true :=
    below_s (below_s (fun i h => absurd h (Nat.not_lt_zero i)) (below4 far40_00 far40_01 far40_02 far40_03)) (below4 far40_10 far40_11 far40_12 far40_13)
  have := h m hm (c / 10) (Nat.div_lt_of_lt_mul hc) (c % 10) (Nat.mod_lt _ (by decide)) d hd
  rwa [Nat.div_add_mod] at this
end Mine

end

section
set_option maxRecDepth 100000
open PySem PySem.W PySem.Calls PyProof.Rows Yy
namespace Mine



/-- what quotedata makes of a mail -/
noncomputable def quote (l : List Nat) : List Nat := dots true (norm false l)
theorem pat1 {w : World} {h₀ : Heap} (C : Cx h₀ w.params) : PatAt h₀ 105 c1 :=
  ⟨_, _, _, _, _, _, C.inK _ _ (by walk_at "u"), by walk_at "u", by walk_at "u", by walk_at "u", by walk_at "u", C.inK _ _ (by walk_at "u"), by walk_at "u", by walk_at "u"⟩
theorem pat2 {w : World} {h₀ : Heap} (C : Cx h₀ w.params) : PatAt h₀ 110 c2 :=
  ⟨_, _, _, _, _, _, C.inK _ _ (by walk_at "u"), by walk_at "u", by walk_at "u", by walk_at "u", by walk_at "u", C.inK _ _ (by walk_at "u"), by walk_at "u", by walk_at "u"⟩

set_option maxHeartbeats 4000000 in
theorem quote_spec {w : World} {h₀ : Heap} (C : Cx h₀ w.params) {A : Around} (hA : Rm A 3) {led : Led} {l : List Nat} (hl : l.length ≤ 2 ^ 15) :
    Cl pw w h₀ A led (.obj 117) [.str (St l)] [] (fun ld v => ld = led ∧ v = .str (St (quote l))) := by
  refine Cl.defC C.nol (.inl (C.inK _ _ (by walk_at "u"))) (codeOf C.inK (by walk_at "u")) hA (Binds.of_eq [S "data"] (all1 rfl fun x => by walk_at "u")) (fun c L A' hA' => ⟨_, led, .loc (by walk_at "u") .nil, ?_⟩)
  have hh := hA'.handled
  have n1 := norm_len false l
  have n2 := dots_len true (norm false l)
  have h16 : (norm false l).length ≤ 2 ^ 16 := Nat.le_trans n1 (Nat.mul_le_mul_left 2 hl)
  refine Xs.cons (X1.ret (E1.meth meth_sub ?_ (by walk_at "u") (by walk_at "u") (by walk_at "u") (by decide)))
  walk_at "Y"
  refine ⟨.inr ⟨_, _, C.inK _ _ (by walk_at "u")⟩, ?_⟩
  refine Es.co (E1.str (Es.co (E1.meth meth_sub ?_ (by walk_at "u") (by walk_at "u") (by walk_at "u") (by decide))))
  walk_at "Y"
  refine ⟨.inr ⟨_, _, C.inK _ _ (by walk_at "u")⟩, ?_⟩
  walk_at "Y"
  refine b_sub (C := c2) (l := l) (r := [13, 10]) (G := G2 l) (subOk2 l (Nat.le_trans hl (by decide))) (by decide) (by show (norm false (l.drop 0)).length ≤ _; rw [List.drop_zero]; exact Nat.le_trans h16 (by decide)) (Nat.le_trans hl (by decide)) (by decide) (by simp) (pat2 C) ⟨_, C.inK _ _ (by walk_at "u"), rfl⟩ ⟨_, rfl, ?_⟩
  refine Es.ni ?_
  have e2 : G2 l 0 = norm false l := by unfold G2; rw [List.drop_zero]
  rw [e2]
  refine b_sub (C := c1) (l := norm false l) (r := [46, 46]) (G := G1 (norm false l)) (subOk1 _ (Nat.le_trans h16 (by decide))) (by decide) (by show (dots (atL _ 0) ((norm false l).drop 0)).length ≤ _; rw [List.drop_zero]; exact Nat.le_trans n2 (Nat.le_trans (Nat.mul_le_mul_left 2 h16) (by decide))) (Nat.le_trans h16 (by decide)) (by decide) (by simp) (pat1 C) ⟨_, C.inK _ _ (by walk_at "u"), rfl⟩ ⟨_, rfl, ?_⟩
  refine ⟨led, List.Sublist.refl _, rfl, ?_⟩
  have e1 : G1 (norm false l) 0 = quote l := by unfold G1 quote; rw [List.drop_zero]; rfl
  rw [e1]
end Mine

end

section
set_option maxRecDepth 100000
open PySem PySem.W PySem.Calls PyProof.Rows Yy
namespace Mine



theorem mul_dots (n : Nat) (hn : n < 8) : Txt.mul (St [46]) (n : Int) = St (List.replicate n 46) := by
  have : ∀ n < 8, Txt.mul (St [46]) ((n : Nat) : Int) = St (List.replicate n 46) := by decide +kernel
  exact this n hn
theorem BinQ.dots {Q : MV → Prop} {n : Nat} (hn : n < 8) (h : Q (.str (St (List.replicate n 46)))) : BinQ .Mult (.str (Str.ofString ".")) (.int (n : Int)) Q := by
  have e : Str.ofString "." = St [46] := by rfl
  rw [e]
  have hm : ∀ n < 8, PySem.MulOk (St [46]) ((n : Nat) : Int) := by unfold PySem.MulOk; decide +kernel
  refine BinQ.mulS ?_ (hm n hn)
  rw [mul_dots n hn]; exact h
theorem nat_div (c k : Nat) : (c : Int).fdiv (k : Int) = ((c / k : Nat) : Int) := by rw [Int.fdiv_eq_ediv_of_nonneg _ (Int.natCast_nonneg _)]; rfl
theorem nat_mod (c k : Nat) : (c : Int).fmod (k : Int) = ((c % k : Nat) : Int) := by rw [Int.fmod_eq_emod_of_nonneg _ (Int.natCast_nonneg _)]; rfl
theorem tl_get : ∀ k < 5, ([MV.str (S ""), MV.str (S "a"), MV.str (S "A"), MV.str (S "b"), MV.str (S ".")])[k]? = some (.str (St (tl5.getD k []))) :=
  below5 rfl rfl rfl rfl rfl
theorem lt_get : ∀ k < 4, ([97, 65, 98, 66] : List Nat)[k]? = some (lt4.getD k 0) := by decide

set_option maxHeartbeats 400000 in
theorem row_spec {w : World} {h₀ : Heap} (C : Cx h₀ w.params) {A : Around} (hA : Rm A 1) {led : Led} {c m : Nat} (hm : m ≤ 2) :
    Cl pw w h₀ A led (.obj 138) [.int c, .int m] [] (fun l v => l = led ∧ v = .str (St (rowS c m))) := by
  refine Cl.defC C.nol (.inl (C.inK _ _ (by walk_at "u"))) (codeOf C.inK (by walk_at "u")) hA (Binds.of_eq [S "cell", S "more"] (all2 rfl fun x y => by walk_at "u")) (fun cc L A' hA' => ⟨_, led, .loc (by walk_at "u") (.loc (by walk_at "u") .nil), ?_⟩)
  have h2 : c % 2 * (1 + m) ≤ 1 * 3 := Nat.mul_le_mul (Nat.le_of_lt_succ (Nat.mod_lt _ (by decide))) (by rw [Nat.add_comm]; exact Nat.add_le_add_right hm 1)
  have h5 := tl5_len (c / 8 % 5) (Nat.mod_lt _ (by decide))
  walk_at "Y"
  refine BinQ.modI ?_ (by decide)
  rw [show (c : Int).fmod 2 = ((c % 2 : Nat) : Int) from nat_mod c 2]
  walk_at "Y"
  refine BinQ.mulI ?_ (IntMulOk.of_left (PySem.intBits_le_iff.mpr (Nat.lt_of_lt_of_le (Nat.mod_lt _ (by decide)) (by decide))))
  rw [show ((c % 2 : Nat) : Int) * (1 + (m : Int)) = ((c % 2 * (1 + m) : Nat) : Int) by rw [Int.natCast_mul, Int.natCast_add]; rfl]
  refine BinQ.dots (Nat.lt_of_le_of_lt h2 (by decide)) ?_
  walk_at "Y"
  rw [show Str.ofString "aAbB" = St [97, 65, 98, 66] from rfl]
  refine BinQ.fdivI ?_ (by decide) (PyProof.noPylong_small (by decide))
  rw [show (c : Int).fdiv 2 = ((c / 2 : Nat) : Int) from nat_div c 2]
  walk_at "Y"
  refine BinQ.modI ?_ (by decide)
  rw [show ((c / 2 : Nat) : Int).fmod 4 = ((c / 2 % 4 : Nat) : Int) from nat_mod _ 4]
  refine SubQ.s (Nat.lt_of_lt_of_le (Nat.mod_lt _ (by decide)) (by decide)) (lt_get _ (Nat.mod_lt _ (by decide))) ?_
  have h3 : (List.replicate (c % 2 * (1 + m)) 46).length ≤ 3 := by rw [List.length_replicate]; exact h2
  refine BinQ.addT ?_ (Nat.le_trans (Nat.add_le_add_right h3 _) (show 3 + 1 ≤ 2 ^ 20 by decide))
  walk_at "Y"
  with_reducible refine E1.tup ?_ (by decide) (by walk_at "u")
  walk_at "Y"
  refine BinQ.fdivI ?_ (by decide) (PyProof.noPylong_small (by decide))
  rw [show (c : Int).fdiv 8 = ((c / 8 : Nat) : Int) from nat_div c 8]
  walk_at "Y"
  refine BinQ.modI ?_ (by decide)
  rw [show ((c / 8 : Nat) : Int).fmod 5 = ((c / 8 % 5 : Nat) : Int) from nat_mod _ 5]
  refine ⟨ix (Nat.mod_lt _ (by decide) : c / 8 % 5 < 5) (by decide), _, (by rw [Int.toNat_natCast]; exact tl_get _ (Nat.mod_lt _ (by decide))), ?_⟩
  refine BinQ.addT ?_ (by rw [List.length_append]; exact Nat.le_trans (Nat.add_le_add (Nat.add_le_add_right h3 _) h5) (show 3 + 1 + 1 ≤ 2 ^ 20 by decide))
  refine ⟨led, List.Sublist.refl _, rfl, ?_⟩
  unfold rowS
  rw [List.append_assoc]; rfl

/-! ### chains -/
noncomputable def chM (p : Ch) : MV := .tup [.int p.1, .int p.2.1, .int p.2.2]
theorem letters_get {a : List Nat} {i : Nat} {y : MV} (h : (letters (St a))[i]? = some y) : ∃ c, a[i]? = some c ∧ y = .str (St [c]) := by
  unfold letters at h
  rw [show (St a).cps.toList = a from rfl, List.getElem?_map] at h
  cases e : a[i]? with
  | none => rw [e] at h; cases h
  | some c => rw [e] at h; cases h; exact ⟨c, rfl, rfl⟩
theorem letters_len {a : List Nat} : (enmItems (letters (St a))).length = a.length := by simp [enmItems, letters]
theorem foldMin (x : Int) : ∀ l : List Int, l.foldl min x ∈ x :: l ∧ ∀ y ∈ x :: l, l.foldl min x ≤ y := by
  intro l
  induction l generalizing x with
  | nil => exact ⟨List.mem_cons_self, fun y hy => by rw [List.mem_singleton.mp hy]; exact Int.le_refl _⟩
  | cons z l ih =>
    obtain ⟨h1, h2⟩ := ih (min x z)
    refine ⟨?_, fun y hy => ?_⟩
    · rw [List.foldl_cons]
      rcases List.mem_cons.mp h1 with h | h
      · rw [h]
        rcases Int.le_total x z with q | q
        · rw [Int.min_eq_left q]; exact List.mem_cons_self
        · rw [Int.min_eq_right q]; exact List.mem_cons_of_mem _ List.mem_cons_self
      · exact List.mem_cons_of_mem _ (List.mem_cons_of_mem _ h)
    · rw [List.foldl_cons]
      have hm := h2 _ List.mem_cons_self
      rcases List.mem_cons.mp hy with rfl | hy
      · exact Int.le_trans hm (Int.min_le_left _ _)
      · rcases List.mem_cons.mp hy with rfl | hy
        · exact Int.le_trans hm (Int.min_le_right _ _)
        · exact h2 y (List.mem_cons_of_mem _ hy)
theorem min_is {x : Int} {l : List Int} {M : Int} (h1 : M ∈ x :: l) (h2 : ∀ y ∈ x :: l, M ≤ y) : M = l.foldl min x := by
  obtain ⟨a, b⟩ := foldMin x l
  exact Int.le_antisymm (h2 _ a) (b _ h1)
theorem selF (h l : Nat) : ∀ ch : List Ch, (ch.map fun p => if chOk h l p = true then some (MV.int (via h l p)) else none).filterMap id = mi ((ch.filter (chOk h l)).map (via h l)) := by
  intro ch
  induction ch with
  | nil => rfl
  | cons p ch ih =>
    rw [List.map_cons, List.filter_cons]
    cases e : chOk h l p with
    | true =>
      rw [if_pos rfl, if_pos rfl]
      show MV.int (via h l p) :: _ = _
      rw [ih]; rfl
    | false =>
      rw [if_neg (by decide), if_neg (by decide)]
      exact ih
theorem farRow_snoc (n k h a : Nat) (s : Int × List Ch) (b : List Nat) (j c : Nat) (hj : b[j]? = some c) : farRow n k h a s (b.take (j + 1)) = stp n k h a (farRow n k h a s (b.take j)) (c, j) := by
  have hl := (List.getElem?_eq_some_iff.mp hj).1
  unfold farRow
  rw [List.take_add_one, hj, List.zipIdx_append, List.foldl_append, List.length_take, Nat.min_eq_left (Nat.le_of_lt hl), Nat.zero_add]; rfl
theorem farTo_snoc (a b : List Nat) (i c : Nat) (hi : a[i]? = some c) : farTo a b (i + 1) = farRow a.length b.length i c (farTo a b i) b := by
  have hl := (List.getElem?_eq_some_iff.mp hi).1
  unfold farTo
  rw [List.take_add_one, hi, List.zipIdx_append, List.foldl_append, List.length_take, Nat.min_eq_left (Nat.le_of_lt hl), Nat.zero_add]; rfl
theorem stp_len (n k h a : Nat) (s : Int × List Ch) (p : Nat × Nat) : (stp n k h a s p).2.length ≤ s.2.length + 1 := by
  unfold stp
  split
  · rw [List.length_append]; exact Nat.le_refl _
  · exact Nat.le_succ _
theorem farRow_len (n k h a : Nat) (s : Int × List Ch) (b : List Nat) : ∀ j, j ≤ b.length → (farRow n k h a s (b.take j)).2.length ≤ s.2.length + j := by
  intro j
  induction j with
  | zero => intro _; rw [List.take_zero]; exact Nat.le_refl _
  | succ j ih =>
    intro hj
    have e : b[j]? = some b[j] := List.getElem?_eq_getElem hj
    rw [farRow_snoc n k h a s b j _ e]
    exact Nat.le_trans (stp_len _ _ _ _ _ _) (Nat.succ_le_succ (ih (Nat.le_of_lt hj)))
theorem farTo_len (a b : List Nat) : ∀ i, i ≤ a.length → (farTo a b i).2.length ≤ i * b.length := by
  intro i
  induction i with
  | zero => intro _; unfold farTo; rw [List.take_zero]; exact Nat.zero_le _
  | succ i ih =>
    intro hi
    have e : a[i]? = some a[i] := List.getElem?_eq_getElem hi
    rw [farTo_snoc a b i _ e]
    have h := farRow_len a.length b.length i a[i] (farTo a b i) b b.length (Nat.le_refl _)
    rw [List.take_length] at h
    rw [Nat.succ_mul]
    exact Nat.le_trans h (Nat.add_le_add_right (ih (Nat.le_of_lt hi)) _)

set_option maxHeartbeats 4000000 in
theorem far_spec {w : World} {h₀ : Heap} (C : Cx h₀ w.params) {A : Around} (hA : Rm A 3) {led : Led} {a b : List Nat} (ha : ∀ c ∈ a, c < 128) (hb : ∀ c ∈ b, c < 128) (la : a.length ≤ 40) (lb : b.length ≤ 40) :
    Cl pw w h₀ A led (.obj 150) [.str (St a), .str (St b)] [] (fun l v => l = led ∧ v = .int (far a b)) := by
  have sz : sizeLine = 2 ^ 24 := rfl
  refine Cl.defC C.nol (.inl (C.inK _ _ (by walk_at "u"))) (codeOf C.inK (by walk_at "u")) hA (Binds.of_eq [S "one", S "other"] (all2 rfl fun x y => by walk_at "u")) (fun c L A' hA' => ⟨_, (c 1, .cell none) :: (c 0, .cell none) :: led, .loc (by walk_at "u") (.loc (by walk_at "u") .nil), ?_⟩)
  have hh := hA'.handled
  have la20 : a.length ≤ 2 ^ 20 := Nat.le_trans la (by decide)
  have lb20 : b.length ≤ 2 ^ 20 := Nat.le_trans lb (by decide)
  walk_at "Y"
  refine f_len la20 ?_
  walk_at "Y"
  refine f_len lb20 ?_
  walk_at "Y"
  refine f_max2 hh ?_
  refine BinQ.mulI ?_ (IntMulOk.of_left (by decide))
  refine Xs.cons (X1.assign (by walk_at "u") (by walk_at "u") (E1.list (Es.ni (NewL.own fun R => ?_))) (by walk_at "u"))
  refine Xs.cons (X1.for (It1.enum hh (by walk_at "u") ?_ (by walk_at "u")) (by intro _; walk_at "u"))
  walk_at "Y"
  refine ⟨rfl, ?_⟩
  walk_at "Y"
  refine ForR.st (σ := (Int × List Ch) × Option MV × Option MV) (fun _ s => [(S "one", .str (St a)), (S "other", .str (St b)), (S "least", .int s.1.1), (S "chains", .obj R)]) (fun _ s => (R, .list (s.1.2.map chM)) :: (c 1, .cell s.2.2) :: (c 0, .cell s.2.1) :: led)
    (fun i s => s.1 = farTo a b i) ((2 * max (a.length : Int) b.length, []), none, none) rfl (by walk_at "has") rfl ?_ ?_
  · intro i y s hy hs
    have hs : s.1 = farTo a b i := hs
    rw [hs]
    refine Exists.elim (enmItems_get hy) fun v' q1 => Exists.elim (letters_get q1.1) fun x q2 => As.eq (q1.2.trans (congrArg (fun v => MV.tup [.int (i : Int), v]) q2.2)) ?_
    have hx := q2.1
    have hi := (List.getElem?_eq_some_iff.mp hx).1
    have hx128 := ha x (List.mem_of_getElem? hx)
    have hlen := farTo_len a b i (Nat.le_of_lt hi)
    refine As.tup hh ?_ rfl (by walk_at "u")
    refine As.cell' (by walk_at "u") (by walk_at "u") (by walk_at "u") (led' := (R, .list ((farTo a b i).2.map chM)) :: (c 1, .cell s.2.2) :: (c 0, .cell (some (.int i))) :: led) (by walk_at "set") (As.loc (by walk_at "u") (by walk_at "u") ?_)
    refine Xs.cons ?_
    refine X1.for (It1.enum hh (by walk_at "u") ?_ (by walk_at "u")) (by intro _; walk_at "u")
    walk_at "Y"
    refine ⟨rfl, ?_⟩
    walk_at "Y"
    refine ForR.st (σ := (Int × List Ch) × Option MV) (fun _ s => [(S "one", .str (St a)), (S "other", .str (St b)), (S "letter", .str (St [x])), (S "least", .int s.1.1), (S "chains", .obj R)]) (fun _ s => (R, .list (s.1.2.map chM)) :: (c 1, .cell s.2) :: (c 0, .cell (some (.int i))) :: led)
      (fun j s => s.1 = farRow a.length b.length i x (farTo a b i) (b.take j)) (farTo a b i, s.2.2) rfl (by walk_at "has") rfl ?_ ?_
    · rintro j y ⟨s, y2⟩ hy hs
      dsimp only at hs
      refine Exists.elim (enmItems_get hy) fun v' q1 => Exists.elim (letters_get q1.1) fun z q2 => As.eq (q1.2.trans (congrArg (fun v => MV.tup [.int (j : Int), v]) q2.2)) ?_
      have hz := q2.1
      have hj := (List.getElem?_eq_some_iff.mp hz).1
      have hz128 := hb z (List.mem_of_getElem? hz)
      have hsl : s.2.length ≤ 2 ^ 20 := by
        rw [hs]
        refine Nat.le_trans (farRow_len _ _ _ _ _ _ j (Nat.le_of_lt hj)) (Nat.le_trans (Nat.add_le_add (Nat.le_trans hlen (Nat.mul_le_mul (Nat.le_trans (Nat.le_of_lt hi) la) lb)) (Nat.le_trans (Nat.le_of_lt hj) lb)) (by decide))
      have hst := farRow_snoc a.length b.length i x (farTo a b i) b j z hz
      rw [← hs] at hst
      clear hs
      unfold stp at hst
      refine As.tup hh ?_ rfl (by walk_at "u")
      refine As.cell' (by walk_at "u") (by walk_at "u") (by walk_at "u") (led' := (R, .list (s.2.map chM)) :: (c 1, .cell (some (.int j))) :: (c 0, .cell (some (.int i))) :: led) (by walk_at "set") (As.loc (by walk_at "u") (by walk_at "u") ?_)
      show Xs _ _ _ _ _ _ _ _ _ _
      walk_at "Y"
      refine E1.meth meth_lower ?_
      walk_at "Y"
      refine ⟨rfl, cl_low hx128 ⟨_, rfl, ?_⟩⟩
      refine E1.meth meth_lower ?_
      walk_at "Y"
      refine ⟨rfl, cl_low hz128 ⟨_, rfl, ?_⟩⟩
      walk_at "Y"
      refine two_dec (fun g => ?_) (fun g => ?_)
      · have g' : lowC x = lowC z := by simpa using g
        rw [if_pos g'] at hst
        refine Xs.cons (X1.assign (by walk_at "u") (by walk_at "u") (E1.call (E1.blt (Cx.gd ‹Cx _ _›) (by walk_at "u") (by walk_at "u") (by walk_at "u") (by walk_at "u") (by walk_at "u") (Es.co (E1.addL (E1.list ?_))) (by walk_at "u")) (by walk_at "u")) (by walk_at "u"))
        walk_at "Y"
        refine f_max2 hh ?_
        refine BinQ.mulI ?_ (IntMulOk.of_left (by decide))
        walk_at "Y"
        refine NewL.frz ⟨_, rfl, ?_⟩
        refine E1.compO (cl := [(S "low", c 1), (S "high", c 0)]) ⟨by walk_at "u", by walk_at "u", by decide⟩ ?_ (by intro _; walk_at "u")
        refine It1O.own hh ?_
        walk_at "Y"
        refine ⟨R, _, rfl, memH, fun c' C' D' => ?_⟩
        refine CompR.toF (led := fled _ _ _) (s.2.map fun p => if chOk i j p = true then some (MV.int (via i j p)) else none) (by rw [List.length_map, List.length_map]) (by rw [List.length_map]; exact hsl) (fun q y acc hy => ?_) ?_ ?_
        · rw [List.getElem?_map] at hy
          cases e : s.2[q]? with
          | none => rw [e] at hy; cases hy
          | some p =>
            rw [e] at hy
            cases hy
            have hsel : (s.2.map fun p => if chOk i j p = true then some (MV.int (via i j p)) else none)[q]? = some (if chOk i j p = true then some (MV.int (via i j p)) else none) := by rw [List.getElem?_map, e]; rfl
            rw [hsel]
            refine As.tup hh ?_ rfl (by walk_at "u")
            refine As.loc (by walk_at "u") (by walk_at "u") (As.loc (by walk_at "u") (by walk_at "u") (As.loc (by walk_at "u") (by walk_at "u") ?_))
            show T1 _ _ _ _ _ _ _ _ _
            walk_at "Y"
            have hok : chOk i j p = (decide ((p.1 : Int) < i) && decide ((p.2.1 : Int) < j)) := by
              unfold chOk
              rw [decide_eq_decide.mpr Int.ofNat_lt.symm, decide_eq_decide.mpr Int.ofNat_lt.symm]
            refine two_dec (fun g1 => ?_) (fun g1 => ?_)
            · walk_at "Y"
              refine two_dec (fun g2 => ?_) (fun g2 => ?_)
              · have hok' : chOk i j p = true := by rw [hok, decide_eq_true g1, decide_eq_true g2]; rfl
                walk_at "Y"
                refine two_yes ?_
                walk_at "Y"
                refine f_max2 hh ?_
                refine BinQ.mulI ?_ (IntMulOk.of_left (by decide))
                walk_at "Y"
                exact ⟨rfl, by rw [if_pos hok']; rfl⟩
              · rw [decide_eq_false g2, Bool.and_false] at hok
                exact two_no ⟨rfl, by rw [if_neg (by rw [hok]; decide)]⟩
            · rw [decide_eq_false g1, Bool.false_and] at hok
              exact two_no ⟨rfl, by rw [if_neg (by rw [hok]; decide)]⟩
        · refine ⟨_, List.Sublist.refl _, ?_⟩
          rw [selF]
          refine NewL.frz ⟨_, rfl, ?_⟩ ?_
          · refine NewL.frz ?_ ?_
            · rw [show ([MV.int (2 * max (i : Int) j)] ++ mi ((s.2.filter (chOk i j)).map (via i j))) = mi (2 * max (i : Int) j :: (s.2.filter (chOk i j)).map (via i j)) from rfl]
              walk_at "Y"
              refine b_minL hh (List.cons_ne_nil _ _) fun M h1 h2 => ⟨_, rfl, ?_⟩
              rw [min_is h1 h2, show List.foldl min (2 * max (i : Int) j) ((s.2.filter (chOk i j)).map (via i j)) = costOf s.2 i j from rfl]
              show Xs _ _ _ _ _ _ _ _ _ _
              refine Xs.cons (X1.cut [(S "cost", .int (costOf s.2 i j + if x = z then 0 else 1)), (S "one", .str (St a)), (S "other", .str (St b)), (S "letter", .str (St [x])), (S "least", .int s.1), (S "chains", .obj R)] ((R, .list (s.2.map chM)) :: (c 1, .cell (some (.int j))) :: (c 0, .cell (some (.int i))) :: led) ?_ ?_)
              · walk_at "Y"
                refine b_int_bool ⟨_, rfl, ?_⟩
                walk_at "Y"
                have e : (if decide (St [x] ≠ St [z]) = true then (1 : Int) else 0) = if x = z then 0 else 1 := by
                  by_cases q : x = z
                  · rw [if_pos q, if_neg (by simp [q])]
                  · rw [if_neg q, if_pos (by rw [decide_eq_true_eq]; intro w; exact q (List.cons.inj (St.inj.mp w)).1)]
                rw [e]
                exact ⟨by walk_at "has", rfl⟩
              revert hst
              refine genE ((costOf s.2 i j + if x = z then 0 else 1)) fun cst hcst => ?_
              intro hst
              refine Xs.cons (X1.expr (E1.meth meth_append ?_ (by walk_at "u") (by walk_at "u") (by walk_at "u") (by decide)) (by walk_at "u") (by walk_at "u"))
              walk_at "Y"
              refine ⟨.inl ⟨_, memT memH, rfl⟩, ?_⟩
              refine Es.co (E1.tup ?_ (by decide) (by walk_at "u"))
              walk_at "Y"
              refine b_append (.tail .head) (by rw [List.length_map]; exact Nat.le_trans hsl (by decide)) ⟨_, rfl, rfl, ?_⟩
              walk_at "Y"
              refine f_len la20 ?_
              walk_at "Y"
              refine f_len lb20 ?_
              walk_at "Y"
              refine f_max2 hh ?_
              refine BinQ.mulI ?_ (IntMulOk.of_left (by decide))
              walk_at "Y"
              refine f_min2 hh ?_
              walk_at "Y"
              refine ⟨((min s.1 (cst + 2 * max ((a.length : Int) - i) ((b.length : Int) - j) - 2), s.2 ++ [(i, j, cst)]), some (.int j)), hst.symm, by walk_at "has", ?_⟩
              rw [List.map_append]; rfl
            · exact (by simp [mi, sz]; exact Nat.le_trans (Nat.le_trans (List.length_filter_le _ _) hsl) (by decide))
          · rw [mi_len, List.length_map]; exact Nat.le_trans (List.length_filter_le _ _) (Nat.le_trans hsl (by decide))
        · intro e he
          rw [List.mem_singleton.mp he]
          exact memT memH
      · walk_at "Y"
        refine ⟨(s, some (.int j)), ?_, by walk_at "has", rfl⟩
        rw [hst, if_neg (by simpa using g)]
    · rintro m' ⟨s, y2⟩ hs hm
      dsimp only at hs
      rw [letters_len, List.take_length, ← farTo_snoc a b i x hx] at hs
      refine Xs.nil ⟨(s, some (.int i), y2), hs, fun x y e => hm x y ?_, rfl⟩
      exact (by walk_at "has" : Has _ _) x y e
  · rintro m' ⟨s, y0, y1⟩ hs hm
    dsimp only at hs
    rw [letters_len] at hs
    refine Xs.has hm ?_
    walk_at "Y"
    exact ⟨led, (((List.Sublist.refl led).cons _).cons _).cons _, rfl, by rw [hs]; rfl⟩
end Mine

end

section
set_option maxRecDepth 100000
open PySem PySem.W PySem.Calls PyProof.Rows Yy
namespace Mine

/-! ### the shelf: between lo things ahead and others behind, in order, like ones as they came -/
noncomputable abbrev PN := Int × Nat
noncomputable def LexK (p q : PN) : Prop := p.1 < q.1 ∨ (p.1 = q.1 ∧ p.2 < q.2)
noncomputable def up (g : Nat → List MV) (p : PN) : Int × List MV := (p.1, g p.2)
noncomputable def shelfOf (g : Nat → List MV) (pre post : List (Int × List MV)) (mid : List PN) : List (Int × List MV) := pre ++ (mid.map (up g) ++ post)

section
variable {g : Nat → List MV} {pre post : List (Int × List MV)} {mid : List PN}
theorem shelf_len : (shelfOf g pre post mid).length = pre.length + mid.length + post.length := by unfold shelfOf; rw [List.length_append, List.length_append, List.length_map, Nat.add_assoc]
theorem key_mid {i : Nat} (h : i < mid.length) : (keysOf (shelfOf g pre post mid))[pre.length + i]? = some (mid[i]).1 := by
  unfold keysOf shelfOf
  rw [List.getElem?_map, List.getElem?_append_right (Nat.le_add_right _ _), List.getElem?_append_left (by rw [Nat.add_sub_cancel_left, List.length_map]; exact h), List.getElem?_map]
  rw [Nat.add_sub_cancel_left, List.getElem?_eq_getElem h]
  rfl
theorem lexK_le {i j : Nat} (hs : mid.Pairwise LexK) (hij : i ≤ j) (hj : j < mid.length) : (mid[i]).1 ≤ (mid[j]).1 := by
  rcases Nat.eq_or_lt_of_le hij with h | h
  · subst h; exact Int.le_refl _
  · have := List.pairwise_iff_getElem.mp hs i j (Nat.lt_trans h hj) hj h
    exact (show _ ∨ _ from this).elim Int.le_of_lt fun e => Int.le_of_eq e.1
theorem shelf_sorted (hs : mid.Pairwise LexK) : SortedOn (keysOf (shelfOf g pre post mid)) pre.length (pre.length + mid.length) := by
  intro i j x y h1 h2 h3 hx hy
  obtain ⟨i', rfl⟩ := Nat.exists_eq_add_of_le h1
  obtain ⟨j', rfl⟩ := Nat.exists_eq_add_of_le (Nat.le_trans h1 h2)
  have hj' : j' < mid.length := Nat.lt_of_add_lt_add_left h3
  have hij : i' ≤ j' := Nat.le_of_add_le_add_left h2
  rw [key_mid (Nat.lt_of_le_of_lt hij hj')] at hx
  rw [key_mid hj'] at hy
  cases hx; cases hy
  exact lexK_le hs hij hj'
theorem shelf_ins {p : PN} {r : Nat} (hr : IsBR (keysOf (shelfOf g pre post mid)) p.1 pre.length (pre.length + mid.length) r) (hs : mid.Pairwise LexK) (hnew : ∀ q ∈ mid, q.2 < p.2) :
    ∃ mid', (shelfOf g pre post mid).take r ++ up g p :: (shelfOf g pre post mid).drop r = shelfOf g pre post mid' ∧ mid'.Perm (p :: mid) ∧ mid'.Pairwise LexK := by
  obtain ⟨h1, h2, h3, h4⟩ := hr
  obtain ⟨j, rfl⟩ := Nat.exists_eq_add_of_le h1
  have hj : j ≤ mid.length := Nat.le_of_add_le_add_left h2
  refine ⟨mid.take j ++ p :: mid.drop j, ?_, List.perm_middle.trans (by rw [List.take_append_drop]), ?_⟩
  · unfold shelfOf
    rw [List.take_length_add_append, List.drop_length_add_append, List.take_append_of_le_length (by simpa using hj), List.drop_append_of_le_length (by simpa using hj)]
    simp [List.map_take, List.map_drop]
  · have hs' : (mid.take j ++ mid.drop j).Pairwise LexK := by rw [List.take_append_drop]; exact hs
    obtain ⟨s1, s2, s3⟩ := List.pairwise_append.mp hs'
    refine List.pairwise_append.mpr ⟨s1, List.pairwise_cons.mpr ⟨fun q hq => ?_, s2⟩, fun q hq q' hq' => ?_⟩
    · obtain ⟨i, hi, rfl⟩ := List.mem_iff_getElem.mp hq
      rw [List.length_drop] at hi
      rw [List.getElem_drop]
      have hji : j + i < mid.length := by rw [Nat.add_comm]; exact Nat.add_lt_of_lt_sub hi
      have := h4 (pre.length + (j + i)) _ (Nat.add_le_add_left (Nat.le_add_right j i) _) (Nat.add_lt_add_left hji _) (key_mid hji)
      exact .inl this
    · rcases List.mem_cons.mp hq' with rfl | hq'
      · obtain ⟨i, hi, rfl⟩ := List.mem_iff_getElem.mp hq
        rw [List.length_take] at hi
        rw [List.getElem_take]
        have hi1 : i < j := Nat.lt_of_lt_of_le hi (Nat.min_le_left _ _)
        have hi2 : i < mid.length := Nat.lt_of_lt_of_le hi (Nat.min_le_right _ _)
        have a1 := h3 (pre.length + i) _ (Nat.le_add_right _ _) (Nat.add_lt_add_left hi1 _) (key_mid hi2)
        exact (Int.lt_or_eq_of_le a1).imp id fun e => ⟨e, hnew _ (List.getElem_mem hi2)⟩
      · exact s3 q hq q' hq'

theorem lexK_asymm {p q : PN} (h : LexK p q) (h' : LexK q p) : p = q := by
  rcases h with h | h <;> rcases h' with k | k
  · exact absurd (Int.lt_trans h k) (Int.lt_irrefl _)
  · exact absurd (k.1 ▸ h) (Int.lt_irrefl _)
  · exact absurd (h.1 ▸ k) (Int.lt_irrefl _)
  · exact absurd (Nat.lt_trans h.2 k.2) (Nat.lt_irrefl _)
/-- what sorted gives is what lies on the shelf -/
theorem sorted_mid {prs : List PN} {ys : List MV} (hst : IsStable (tks (prs.map (up g))) (prs.map (·.1)) ys) (hinc : prs.Pairwise (fun p q => p.2 < q.2)) (hp : mid.Perm prs) (hs : mid.Pairwise LexK) : ys = tks (mid.map (up g)) := by
  obtain ⟨p, hpm, hsl, rfl⟩ := hst
  have hl : (tks (prs.map (up g))).length = prs.length := by simp [tks]
  rw [hl] at hpm
  have hlt : ∀ i ∈ p, i < prs.length := fun i hi => by simpa using (hpm.mem_iff (a := i)).mp hi
  have e1 : p.map (fun i => (tks (prs.map (up g))).getD i .none) = tks ((p.map fun i => prs.getD i (0, 0)).map (up g)) := by
    unfold tks
    rw [List.map_map, List.map_map, List.map_map]
    refine List.map_congr_left fun i hi => ?_
    have := hlt i hi
    simp [List.getD_eq_getElem?_getD, List.getElem?_eq_getElem this]
  rw [e1]
  congr 2
  refine (List.Perm.eq_of_pairwise (le := LexK) (fun a b _ _ => lexK_asymm) hs ?_ ?_).symm
  · rw [List.pairwise_map]
    refine List.Pairwise.imp_of_mem ?_ hsl
    intro i j hi hj h
    have hi' := hlt i hi
    have hj' := hlt j hj
    have ei : prs.getD i (0, 0) = prs[i] := by rw [List.getD_eq_getElem?_getD, List.getElem?_eq_getElem hi']; rfl
    have ej : prs.getD j (0, 0) = prs[j] := by rw [List.getD_eq_getElem?_getD, List.getElem?_eq_getElem hj']; rfl
    have ki : (prs.map (·.1)).getD i 0 = (prs[i]).1 := by rw [List.getD_eq_getElem?_getD, List.getElem?_map, List.getElem?_eq_getElem hi']; rfl
    have kj : (prs.map (·.1)).getD j 0 = (prs[j]).1 := by rw [List.getD_eq_getElem?_getD, List.getElem?_map, List.getElem?_eq_getElem hj']; rfl
    unfold Lx at h
    simp only [ki, kj] at h
    rw [ei, ej]
    unfold LexK
    rcases h with h | ⟨h, hlt⟩
    · exact .inl h
    · exact .inr ⟨h, List.pairwise_iff_getElem.mp hinc i j hi' hj' hlt⟩
  · refine hp.trans ?_
    have : prs = (List.range prs.length).map fun i => prs.getD i (0, 0) := by
      apply List.ext_getElem (by simp)
      intro i h1 h2
      simp [List.getD_eq_getElem?_getD, List.getElem?_eq_getElem h1]
    conv => lhs; rw [this]
    exact (hpm.map _).symm

theorem shelf_cut : ((tks (shelfOf g pre post mid)).drop pre.length).take mid.length = tks (mid.map (up g)) := by
  unfold tks shelfOf
  rw [List.map_append, List.map_append, List.drop_append_of_le_length (by simp)]
  rw [List.drop_eq_nil_of_le (by simp), List.nil_append, List.take_append_of_le_length (by simp), List.take_of_length_le (by simp)]
theorem deps_tks : ∀ {ps : List (Int × List MV)}, (∀ p ∈ ps, deps p.2 = 0) → deps (tks ps) ≤ 1
  | [], _ => by simp [tks, deps]
  | p :: ps, h => by
    have h1 := h p (.head _)
    have h2 := deps_tks (ps := ps) fun q hq => h q (.tail _ hq)
    show max (dep (tk p)) (deps (tks ps)) ≤ 1
    have : dep (tk p) = 1 := by
      show max (dep (.int p.1)) (deps p.2) + 1 = 1
      rw [h1]; rfl
    lia
end
end Mine

end

section
set_option maxRecDepth 100000
open PySem PySem.W PySem.Calls PyProof.Rows Yy
namespace Mine



/-! ### the six ties, and the nets -/
noncomputable def hiL : List Nat := [1, 2, 2, 3, 3, 3]
noncomputable def loL : List Nat := [0, 0, 1, 0, 1, 2]
noncomputable def hi (i : Nat) : Nat := hiL.getD i 0
noncomputable def lo (i : Nat) : Nat := loL.getD i 0
noncomputable def endN (i : Nat) : Nat := 2 ^ hi i ||| 2 ^ lo i
noncomputable def tieM (T : Nat → Int) (i : Nat) : MV := .tup [.int (T i), .int (hi i), .int (lo i)]
noncomputable def tiesM (T : Nat → Int) : List MV := (List.range 6).map (tieM T)
noncomputable def net3 (T : Nat → Int) (a b c : Nat) : List Int := if endN a ||| endN b ||| endN c = 15 then [T a + T b + T c] else []
noncomputable def net2 (T : Nat → Int) (a b k : Nat) : List Int := (List.range k).flatMap (net3 T a b)
noncomputable def net1 (T : Nat → Int) (a k : Nat) : List Int := (List.range k).flatMap fun b => net2 T a b b
noncomputable def net0 (T : Nat → Int) (k : Nat) : List Int := (List.range k).flatMap fun a => net1 T a a
theorem flat_snoc {α : Type} (f : Nat → List α) (k : Nat) : (List.range (k + 1)).flatMap f = (List.range k).flatMap f ++ f k := by
  rw [List.range_succ, List.flatMap_append, List.flatMap_cons, List.flatMap_nil, List.append_nil]
theorem flat_le {α : Type} (f : Nat → List α) (m : Nat) : ∀ k, (∀ x < k, (f x).length ≤ m) → ((List.range k).flatMap f).length ≤ k * m := by
  intro k
  induction k with
  | zero => intro _; exact Nat.zero_le _
  | succ k ih =>
    intro h
    rw [flat_snoc, List.length_append, Nat.succ_mul]
    exact Nat.add_le_add (ih fun x hx => h x (Nat.lt_succ_of_lt hx)) (h k (Nat.lt_succ_self k))
theorem net3_le (T : Nat → Int) (a b c : Nat) : (net3 T a b c).length ≤ 1 := by unfold net3; split; exact Nat.le_refl _; exact Nat.zero_le _
theorem net2_le (T : Nat → Int) (a b : Nat) {k : Nat} (hk : k ≤ 6) : (net2 T a b k).length ≤ 6 := Nat.le_trans (flat_le _ 1 k fun x _ => net3_le T a b x) (by rw [Nat.mul_one]; exact hk)
theorem net1_le (T : Nat → Int) (a : Nat) {k : Nat} (hk : k ≤ 6) : (net1 T a k).length ≤ 6 * 6 := Nat.le_trans (flat_le _ 6 k fun x hx => net2_le T a x (Nat.le_trans (Nat.le_of_lt hx) hk)) (Nat.mul_le_mul_right 6 hk)
theorem net0_le (T : Nat → Int) {k : Nat} (hk : k ≤ 6) : (net0 T k).length ≤ 6 * 36 := Nat.le_trans (flat_le _ 36 k fun x hx => net1_le T x (Nat.le_trans (Nat.le_of_lt hx) hk)) (Nat.mul_le_mul_right 36 hk)
theorem hi_lt : ∀ i < 6, hi i < 4 := by decide
theorem lo_lt : ∀ i < 6, lo i < 4 := by decide
theorem end_ok : ∀ i < 6, Builtin.bitOr ((2 : Int) ^ ((hi i : Nat) : Int).toNat) ((2 : Int) ^ ((lo i : Nat) : Int).toNat) = ((endN i : Nat) : Int) := by decide +kernel
theorem or_ok : ∀ a < 16, ∀ b < 16, Builtin.bitOr ((a : Nat) : Int) ((b : Nat) : Int) = ((a ||| b : Nat) : Int) := by decide +kernel
theorem end_lt : ∀ i < 6, ∀ j < 6, endN i < 16 ∧ endN i ||| endN j < 16 := by decide
theorem end_get {i : Nat} (h : i < 6) : (mi ((List.range 6).map fun i => ((endN i : Nat) : Int)))[i]? = some (.int ((endN i : Nat) : Int)) := by
  refine mi_get ?_
  rw [List.getElem?_map, List.getElem?_range h]; rfl
theorem endI {i : Nat} (h : i < 6) : (mi ((List.range 6).map fun i => ((endN i : Nat) : Int)))[(i : Int).toNat]? = some (.int ((endN i : Nat) : Int)) := by rw [Int.toNat_natCast]; exact end_get h
theorem ix6 {i : Nat} (h : i < 6) : 0 ≤ (i : Int) ∧ (i : Int) < 2 ^ 63 := ix h (by decide)
theorem tie_get {T : Nat → Int} {i : Nat} (h : i < 6) : (tiesM T)[i]? = some (tieM T i) := by
  unfold tiesM; rw [List.getElem?_map, List.getElem?_range h]; rfl
theorem tieI {T : Nat → Int} {i : Nat} (h : i < 6) : (tiesM T)[(i : Int).toNat]? = some (tieM T i) := by rw [Int.toNat_natCast]; exact tie_get h

set_option maxHeartbeats 4000000 in
theorem nets_spec {w : World} {h₀ : Heap} (C : Cx h₀ w.params) {A : Around} (hA : Rm A 3) {led : Led} {T : Nat → Int} :
    Cl pw w h₀ A led (.obj 162) [.lst (tiesM T)] [] (fun l v => l = led ∧ v = .lst (mi (net0 T 6))) := by
  have sz : sizeLine = 2 ^ 24 := rfl
  refine Cl.frz ?_
  refine Cl.defC C.nol (.inl (C.inK _ _ (by walk_at "u"))) (codeOf C.inK (by walk_at "u")) hA (Binds.of_eq [S "ties"] (all1 rfl fun x => by walk_at "u")) (fun c L A' hA' => ⟨_, led, .loc (by walk_at "u") .nil, ?_⟩)
  have hh := hA'.handled
  refine Xs.cons (X1.assign (by walk_at "u") (by walk_at "u") (E1.list (Es.ni (NewL.own fun N => ?_))) (by walk_at "u"))
  refine Xs.cons (X1.cut [(S "ends", .lst (mi ((List.range 6).map fun i => ((endN i : Nat) : Int)))), (S "nets", .obj N), (S "ties", .lst (tiesM T))] ((N, .list (mi [])) :: led) ?_ ?_)
  · refine X1.assignComp (cl := []) ⟨by walk_at "u", by walk_at "u", by decide⟩ (by walk_at "u") (by walk_at "u") ?_ (by intro _; walk_at "u") (by walk_at "u")
    refine It1.list hh ?_
    walk_at "Y"
    refine ⟨_, rfl, fun c' C' D' => ?_⟩
    refine CompR.to (led := fled _ _ _) (mi ((List.range 6).map fun i => ((endN i : Nat) : Int))) (by simp [mi, tiesM]) (by simp [tiesM]) (fun j y acc hy => ?_) ?_
    · have hj : j < 6 := by have := (List.getElem?_eq_some_iff.mp hy).1; simpa [tiesM] using this
      refine As.eq (Option.some.inj ((tie_get hj).symm.trans hy)).symm ?_
      rw [end_get hj]
      have h1 := hi_lt j hj
      have h2 := lo_lt j hj
      have hb : Builtin.Int.intBits 2 ≤ 2 := by decide
      refine As.tup hh ?_ rfl (by walk_at "u")
      refine As.loc (by walk_at "u") (by walk_at "u") (As.loc (by walk_at "u") (by walk_at "u") (As.loc (by walk_at "u") (by walk_at "u") ?_))
      show E1 _ _ _ _ _ _ _ _ _
      walk_at "Y"
      refine BinQ.powI ?_ ⟨Int.natCast_nonneg _, mulcl hb (Nat.le_of_lt h1) (by decide)⟩
      walk_at "Y"
      refine BinQ.powI ?_ ⟨Int.natCast_nonneg _, mulcl hb (Nat.le_of_lt h2) (by decide)⟩
      walk_at "Y"
      rw [end_ok j hj]
      exact ⟨rfl, rfl⟩
    · refine ⟨_, List.Sublist.refl _, NewL.frz ?_ (by simp [mi, sz])⟩
      exact ⟨by walk_at "has", rfl⟩
  refine Xs.cons (X1.for (It1.rng hh ?_) (by intro _; walk_at "u"))
  walk_at "Y"
  refine ⟨rfl, ?_⟩
  walk_at "Y"
  refine ⟨6, rfl, by decide, ?_⟩
  refine ForR.rng (σ := Unit) (fun _ _ => [(S "ends", .lst (mi ((List.range 6).map fun i => ((endN i : Nat) : Int)))), (S "nets", .obj N), (S "ties", .lst (tiesM T))]) (fun i _ => (N, .list (mi (net0 T i))) :: led) (fun _ _ => True) () trivial (by walk_at "has") rfl ?_ ?_
  · rintro i s hi6 -
    refine As.loc (by walk_at "u") (by walk_at "u") ?_
    refine Xs.cons ?_
    refine X1.for (It1.rng hh ?_) (by intro _; walk_at "u")
    walk_at "Y"
    refine ⟨rfl, ?_⟩
    walk_at "Y"
    refine ⟨i, rfl, Nat.le_trans (Nat.le_of_lt hi6) (by decide), ?_⟩
    refine ForR.rng (σ := Unit) (fun _ _ => [(S "one", .int (i : Int)), (S "ends", .lst (mi ((List.range 6).map fun i => ((endN i : Nat) : Int)))), (S "nets", .obj N), (S "ties", .lst (tiesM T))]) (fun j _ => (N, .list (mi (net0 T i ++ net1 T i j))) :: led) (fun _ _ => True) () trivial (by walk_at "has") (by rw [show net1 T i 0 = [] from rfl, List.append_nil]) ?_ ?_
    · rintro j s hji -
      have hj6 : j < 6 := Nat.lt_trans hji hi6
      refine As.loc (by walk_at "u") (by walk_at "u") ?_
      refine Xs.cons ?_
      refine X1.for (It1.rng hh ?_) (by intro _; walk_at "u")
      walk_at "Y"
      refine ⟨rfl, ?_⟩
      walk_at "Y"
      refine ⟨j, rfl, Nat.le_trans (Nat.le_of_lt hj6) (by decide), ?_⟩
      refine ForR.rng (σ := Unit) (fun _ _ => [(S "two", .int (j : Int)), (S "one", .int (i : Int)), (S "ends", .lst (mi ((List.range 6).map fun i => ((endN i : Nat) : Int)))), (S "nets", .obj N), (S "ties", .lst (tiesM T))]) (fun k _ => (N, .list (mi (net0 T i ++ net1 T i j ++ net2 T i j k))) :: led) (fun _ _ => True) () trivial (by walk_at "has") (by rw [show net2 T i j 0 = [] from rfl, List.append_nil]) ?_ ?_
      · rintro k s hkj -
        have hk6 : k < 6 := Nat.lt_trans hkj hj6
        refine As.loc (by walk_at "u") (by walk_at "u") ?_
        refine Xs.cons ?_
        walk_at "Y"
        refine ⟨ix6 hi6, _, endI hi6, ?_⟩
        walk_at "Y"
        refine ⟨ix6 hj6, _, endI hj6, ?_⟩
        walk_at "Y"
        rw [or_ok _ (end_lt i hi6 0 (by decide)).1 _ (end_lt j hj6 0 (by decide)).1]
        walk_at "Y"
        refine ⟨ix6 hk6, _, endI hk6, ?_⟩
        walk_at "Y"
        rw [or_ok _ (end_lt i hi6 j hj6).2 _ (end_lt k hk6 0 (by decide)).1]
        walk_at "Y"
        refine two_dec (fun g => ?_) (fun g => ?_)
        · have g' : endN i ||| endN j ||| endN k = 15 := by exact_mod_cast g
          refine Xs.cons (X1.expr (E1.meth meth_append ?_ (by walk_at "u") (by walk_at "u") (by walk_at "u") (by decide)) (by walk_at "u") (by walk_at "u"))
          walk_at "Y"
          refine ⟨.inl ⟨_, memT memH, rfl⟩, ?_⟩
          walk_at "Y"
          refine ⟨ix6 hi6, _, tieI hi6, ?_⟩
          walk_at "Y"
          refine ⟨⟨by decide, by decide⟩, _, rfl, ?_⟩
          walk_at "Y"
          refine ⟨ix6 hj6, _, tieI hj6, ?_⟩
          walk_at "Y"
          refine ⟨⟨by decide, by decide⟩, _, rfl, ?_⟩
          walk_at "Y"
          refine ⟨ix6 hk6, _, tieI hk6, ?_⟩
          walk_at "Y"
          refine ⟨⟨by decide, by decide⟩, _, rfl, ?_⟩
          walk_at "Y"
          have hlen : (net0 T i ++ net1 T i j ++ net2 T i j k).length ≤ 2 ^ 20 := by
            rw [List.length_append, List.length_append]
            exact Nat.le_trans (Nat.add_le_add (Nat.add_le_add (net0_le T (Nat.le_of_lt hi6)) (net1_le T i (Nat.le_of_lt hj6))) (net2_le T i j (Nat.le_of_lt hk6))) (by decide)
          refine b_append (.tail .head) (by rw [mi_len]; exact Nat.le_trans hlen (by decide)) ⟨_, rfl, rfl, ?_⟩
          walk_at "Y"
          refine ⟨(), trivial, by walk_at "has", ?_⟩
          show _ = _
          rw [show net2 T i j (k + 1) = net2 T i j k ++ [T i + T j + T k] by unfold net2; rw [flat_snoc, show net3 T i j k = [T i + T j + T k] from if_pos g'], ← List.append_assoc]
          unfold mi
          rw [List.map_append (l₂ := [T i + T j + T k])]
          rfl
        · walk_at "Y"
          refine ⟨(), trivial, by walk_at "has", ?_⟩
          have g' : ¬ endN i ||| endN j ||| endN k = 15 := fun q => g (by exact_mod_cast q)
          show _ = _
          rw [show net2 T i j (k + 1) = net2 T i j k by unfold net2; rw [flat_snoc, show net3 T i j k = [] from if_neg g', List.append_nil]]
      · intro m s _ hm
        refine Xs.nil ⟨(), trivial, fun x y e => hm x y ?_, ?_⟩
        · exact (by walk_at "has" : Has _ _) x y e
        · rw [show net1 T i (j + 1) = net1 T i j ++ net2 T i j j from flat_snoc _ _, List.append_assoc]
    · intro m s _ hm
      refine Xs.nil ⟨(), trivial, fun x y e => hm x y ?_, ?_⟩
      · exact (by walk_at "has" : Has _ _) x y e
      · rw [show net0 T (i + 1) = net0 T i ++ net1 T i i from flat_snoc _ _]
  · intro m s _ hm
    refine Xs.has hm ?_
    walk_at "Y"
    exact ⟨(N, .list (mi (net0 T 6))) :: led, List.Sublist.refl _, N, _, led, rfl, DelL.head, rfl, rfl⟩

/-! ### how many of each -/
noncomputable def cntL (ns : List Int) (M : Nat) : List Int := (List.range (M + 1)).map fun (k : Nat) => ((ns.countP fun x => decide (x = (k : Int)) : Nat) : Int)
theorem cntL_len (ns : List Int) (M : Nat) : (cntL ns M).length = M + 1 := by unfold cntL; rw [List.length_map, List.length_range]
theorem cntL_get (ns : List Int) {M t : Nat} (h : t ≤ M) : (cntL ns M)[t]? = some ((ns.countP fun x => decide (x = (t : Int)) : Nat) : Int) := by
  unfold cntL; rw [List.getElem?_map, List.getElem?_range (Nat.lt_succ_of_le h)]; rfl
theorem cntL_snoc (ns : List Int) (M t : Nat) : (cntL ns M).set t (((ns.countP fun x => decide (x = (t : Int)) : Nat) : Int) + 1) = cntL (ns ++ [(t : Int)]) M := by
  apply List.ext_getElem?
  intro k
  rw [List.getElem?_set]
  have e : (ns ++ [(t : Int)]).countP (fun x => decide (x = (k : Int))) = ns.countP (fun x => decide (x = (k : Int))) + if t = k then 1 else 0 := by
    rw [List.countP_append]
    congr 1
    rw [List.countP_singleton]
    by_cases q : t = k
    · rw [if_pos q, if_pos (by simp [q])]
    · rw [if_neg q, if_neg (by rw [decide_eq_true_eq]; exact fun w => q (Int.ofNat_inj.mp w))]
  rcases Nat.lt_or_ge k (M + 1) with hk | hk
  · rw [cntL_get _ (Nat.le_of_lt_succ hk), cntL_get _ (Nat.le_of_lt_succ hk), e]
    by_cases q : t = k
    · subst q
      rw [if_pos rfl, if_pos (by rw [cntL_len]; exact hk), if_pos rfl]; rfl
    · rw [if_neg q, if_neg q]; rfl
  · rw [List.getElem?_eq_none (by rw [cntL_len]; exact hk), List.getElem?_eq_none (by rw [cntL_len]; exact hk)]
    split
    · rename_i q
      rw [if_neg (by rw [cntL_len, q]; exact Nat.not_lt.mpr hk)]
    · rfl
theorem cntL_nil (M : Nat) : cntL [] M = List.replicate (M + 1) 0 := by
  unfold cntL
  apply List.ext_getElem (by rw [List.length_map, List.length_range, List.length_replicate])
  intro i h1 h2
  rw [List.getElem_map, List.getElem_replicate]; rfl

set_option maxHeartbeats 4000000 in
theorem counts_spec {w : World} {h₀ : Heap} (C : Cx h₀ w.params) {A : Around} (hA : Rm A 3) {led : Led} {ns : List Int} {M : Nat} (hM : (M : Int) ∈ ns) (hle : ∀ x ∈ ns, 0 ≤ x ∧ x ≤ M) (hz : M ≤ 1000) :
    Cl pw w h₀ A led (.obj 169) [.lst (mi ns)] [] (fun l v => l = led ∧ v = .lst (mi (cntL ns M))) := by
  have sz : sizeLine = 2 ^ 24 := rfl
  refine Cl.frz ?_
  refine Cl.defC C.nol (.inl (C.inK _ _ (by walk_at "u"))) (codeOf C.inK (by walk_at "u")) hA (Binds.of_eq [S "nets"] (all1 rfl fun x => by walk_at "u")) (fun c L A' hA' => ⟨_, led, .loc (by walk_at "u") .nil, ?_⟩)
  have hh := hA'.handled
  refine Xs.cons (X1.assign (by walk_at "u") (by walk_at "u") (E1.mulL (E1.list (Es.co (E1.int (Es.ni (NewL.frz ⟨[.int 0], rfl, ?_⟩)))))) (by walk_at "u"))
  walk_at "Y"
  refine b_maxL hh (List.ne_nil_of_mem hM) fun m h1 h2 => ⟨_, rfl, ?_⟩
  have em : m = (M : Int) := Int.le_antisymm (hle m h1).2 (h2 _ hM)
  rw [em]
  walk_at "Y"
  have ez : (List.replicate (M + 1) [MV.int 0]).flatten = mi (cntL [] M) := by
    rw [cntL_nil]
    generalize M + 1 = k
    induction k with
    | zero => rfl
    | succ k ih => rw [List.replicate_succ, List.flatten_cons, ih]; rfl
  refine ⟨(M : Int) + 1, rfl, ⟨Int.le_add_one (Int.natCast_nonneg _), ncl (n := M + 1) (Nat.succ_le_succ hz) (by decide), ?_⟩, ?_⟩
  · rw [show ((M : Int) + 1).toNat = M + 1 from rfl, List.length_singleton, Nat.one_mul]; exact Nat.le_trans (Nat.succ_le_succ hz) (by decide)
  rw [show ((M : Int) + 1).toNat = M + 1 from rfl, ez]
  refine NewL.own (fun R => ?_) (by rw [mi_len, cntL_len, sz]; exact Nat.le_trans (Nat.succ_le_succ hz) (by decide))
  refine Xs.cons (X1.for (It1.list hh ?_) (by intro _; walk_at "u"))
  walk_at "Y"
  refine ⟨_, rfl, ?_⟩
  refine ForR.st (σ := Unit) (fun _ _ => [(S "counts", .obj R), (S "nets", .lst (mi ns))]) (fun i _ => (R, .list (mi (cntL (ns.take i) M))) :: led) (fun _ _ => True) () trivial (by walk_at "has") rfl ?_ ?_
  · rintro i y s hy -
    have hi : i < ns.length := by have := (List.getElem?_eq_some_iff.mp hy).1; rwa [mi_len] at this
    have ex : ns[i]? = some ns[i] := List.getElem?_eq_getElem hi
    refine As.eq (Option.some.inj ((mi_get ex).symm.trans hy)).symm ?_
    have h1 := (hle _ (List.getElem_mem hi)).1
    have h2 := (hle _ (List.getElem_mem hi)).2
    refine Exists.elim (Int.eq_ofNat_of_zero_le h1) fun t et => ?_
    rw [et] at ex h2 ⊢
    have ht : t ≤ M := Int.ofNat_le.mp h2
    have hti := ix (Nat.lt_succ_of_le ht) (Nat.le_trans (Nat.succ_le_succ hz) (by decide))
    refine As.loc (by walk_at "u") (by walk_at "u") ?_
    refine Xs.cons (X1.store' ?_ (by walk_at "u"))
    walk_at "Y"
    refine ⟨hti, _, memT memH, _, (by rw [Int.toNat_natCast]; exact mi_get (cntL_get _ ht)), ?_⟩
    walk_at "Y"
    refine ⟨R, t, _, _, rfl, rfl, SetL.head, ⟨hti.1, by rw [mi_len, cntL_len, Int.toNat_natCast]; exact Nat.lt_succ_of_le ht, hti.2⟩, ?_⟩
    rw [mi_set, Int.toNat_natCast, cntL_snoc, show ns.take i ++ [(t : Int)] = ns.take (i + 1) by rw [List.take_add_one, ex]; rfl]
    walk_at "Y"
    exact ⟨(), trivial, by walk_at "has", rfl⟩
  · intro m s _ hm
    rw [mi_len, List.take_length]
    refine Xs.has hm ?_
    walk_at "Y"
    exact ⟨(R, .list (mi (cntL ns M))) :: led, List.Sublist.refl _, R, _, led, rfl, DelL.head, rfl, rfl⟩
end Mine

end

section
set_option maxRecDepth 100000
open PySem PySem.W PySem.Calls PyProof.Rows Yy
namespace Mine



/-! ### a square of four rows, each a list of its own -/
noncomputable def upd (R : Nat → List Int) (h : Nat) (ys : List Int) : Nat → List Int := fun i => if i = h then ys else R i
noncomputable def rows4 (ad : Nat → Addr) (R : Nat → List Int) (led : Led) : Led := (ad 3, .list (mi (R 3))) :: (ad 2, .list (mi (R 2))) :: (ad 1, .list (mi (R 1))) :: (ad 0, .list (mi (R 0))) :: led
theorem rows4_set (ad : Nat → Addr) (R : Nat → List Int) (led : Led) (ys : List Int) : ∀ h < 4, SetL (rows4 ad R led) (ad h) (mi (R h)) (mi ys) (rows4 ad (upd R h ys) led) :=
  below4 (.tail (.tail (.tail .head))) (.tail (.tail .head)) (.tail .head) .head
noncomputable def ixL : List (List Nat) := [[6, 0, 1, 3], [0, 6, 2, 4], [1, 2, 6, 5], [3, 4, 5, 6]]
/-- the rows when the first i ties are laid -/
noncomputable def RW (T : Nat → Int) (i h : Nat) : List Int := (ixL.getD h []).map fun k => if k < i then T k else 0
theorem RW_step (T : Nat → Int) : ∀ i < 6, ∀ h < 4, upd (upd (RW T i) (hi i) ((RW T i (hi i)).set (lo i) (T i))) (lo i) ((upd (RW T i) (hi i) ((RW T i (hi i)).set (lo i) (T i)) (lo i)).set (hi i) (T i)) h = RW T (i + 1) h :=
  below6 (below4 rfl rfl rfl rfl) (below4 rfl rfl rfl rfl) (below4 rfl rfl rfl rfl) (below4 rfl rfl rfl rfl) (below4 rfl rfl rfl rfl) (below4 rfl rfl rfl rfl)
theorem rows4_eq (ad : Nat → Addr) {R R' : Nat → List Int} (led : Led) (h : ∀ i < 4, R i = R' i) : rows4 ad R led = rows4 ad R' led := by
  unfold rows4
  rw [h 0 (by decide), h 1 (by decide), h 2 (by decide), h 3 (by decide)]
theorem RW_len (T : Nat → Int) (i : Nat) : ∀ h < 4, (RW T i h).length = 4 := by
  intro h hh
  unfold RW
  rw [List.length_map]
  revert h
  exact below4 rfl rfl rfl rfl
noncomputable def sqM (T : Nat → Int) : List (List Int) := [[0, T 0, T 1, T 3], [T 0, 0, T 2, T 4], [T 1, T 2, 0, T 5], [T 3, T 4, T 5, 0]]
theorem RW_6 (T : Nat → Int) : RW T 6 0 = [0, T 0, T 1, T 3] ∧ RW T 6 1 = [T 0, 0, T 2, T 4] ∧ RW T 6 2 = [T 1, T 2, 0, T 5] ∧ RW T 6 3 = [T 3, T 4, T 5, 0] := ⟨rfl, rfl, rfl, rfl⟩
noncomputable def ml (m : List (List Int)) : List MV := m.map fun r => .lst (mi r)
theorem ad_get (ad : Nat → Addr) {h : Nat} (hh : h < 4) : [MV.obj (ad 0), .obj (ad 1), .obj (ad 2), .obj (ad 3)][(h : Int).toNat]? = some (.obj (ad h)) := by
  rw [Int.toNat_natCast]
  exact @below4 (fun h => [MV.obj (ad 0), .obj (ad 1), .obj (ad 2), .obj (ad 3)][h]? = some (.obj (ad h))) rfl rfl rfl rfl h hh

set_option maxHeartbeats 4000000 in
theorem square_spec {w : World} {h₀ : Heap} (C : Cx h₀ w.params) {A : Around} (hA : Rm A 3) {led : Led} {T : Nat → Int} :
    Cl pw w h₀ A led (.obj 157) [.lst (tiesM T)] [] (fun l v => l = led ∧ v = .lst (ml (sqM T))) := by
  have sz : sizeLine = 2 ^ 24 := rfl
  refine Cl.frz (Cl.frzIn (Cl.frzIn (Cl.frzIn (Cl.frzIn ?_))))
  refine Cl.defC C.nol (.inl (C.inK _ _ (by walk_at "u"))) (codeOf C.inK (by walk_at "u")) hA (Binds.of_eq [S "ties"] (all1 rfl fun x => by walk_at "u")) (fun c L A' hA' => ⟨_, led, .loc (by walk_at "u") .nil, ?_⟩)
  have hh := hA'.handled
  refine Xs.cons ?_
  refine X1.assign ?h1 ?h2 ?h3 ?h4
  case h1 => walk_at "u"
  case h2 => walk_at "u"
  case h4 => walk_at "u"
  refine E1.list ?k1 ?k2
  case k2 => walk_at "u"
  refine Es.co ?_
  refine E1.list ?k3 ?k4
  case k4 => walk_at "u"
  walk_at "Y"
  refine NewL.own fun a0 => ?_
  refine Es.co ?_
  refine E1.list ?k5 ?k6
  case k6 => walk_at "u"
  walk_at "Y"
  refine NewL.own fun a1 => ?_
  refine Es.co ?_
  refine E1.list ?k7 ?k8
  case k8 => walk_at "u"
  walk_at "Y"
  refine NewL.own fun a2 => ?_
  refine Es.co ?_
  refine E1.list ?k9 ?k10
  case k10 => walk_at "u"
  walk_at "Y"
  refine NewL.own fun a3 => ?_
  refine Es.ni (NewL.own fun Q => ?_)
  obtain ⟨ad, e0, e1, e2, e3⟩ : ∃ ad : Nat → Addr, a0 = ad 0 ∧ a1 = ad 1 ∧ a2 = ad 2 ∧ a3 = ad 3 := ⟨fun i => match i with | 0 => a0 | 1 => a1 | 2 => a2 | _ => a3, rfl, rfl, rfl, rfl⟩
  subst e0 e1 e2 e3
  refine Xs.cons (X1.for (It1.list hh ?_) (by intro _; walk_at "u"))
  walk_at "Y"
  refine ⟨_, rfl, ?_⟩
  refine ForR.st (σ := Unit) (fun _ _ => [(S "square", .obj Q), (S "ties", .lst (tiesM T))]) (fun i _ => (Q, .list [.obj (ad 0), .obj (ad 1), .obj (ad 2), .obj (ad 3)]) :: rows4 ad (RW T i) led) (fun _ _ => True) () trivial (by walk_at "has") rfl ?_ ?_
  · rintro i y s hy -
    have hi6 : i < 6 := by have := (List.getElem?_eq_some_iff.mp hy).1; simpa [tiesM] using this
    refine As.eq (Option.some.inj ((tie_get hi6).symm.trans hy)).symm ?_
    have h1 := hi_lt i hi6
    have h2 := lo_lt i hi6
    refine As.tup hh ?_ rfl (by walk_at "u")
    refine As.loc (by walk_at "u") (by walk_at "u") (As.loc (by walk_at "u") (by walk_at "u") (As.loc (by walk_at "u") (by walk_at "u") ?_))
    show Xs _ _ _ _ _ _ _ _ _ _
    refine Xs.cons (X1.store' ?_ (by walk_at "u"))
    walk_at "Y"
    refine ⟨ix h1 (by decide), _, memT memH, _, ad_get ad h1, ?_⟩
    walk_at "Y"
    refine ⟨_, _, _, _, rfl, rfl, .tail (by rw [Int.toNat_natCast, mi_set]; exact rows4_set ad _ _ _ _ h1), ⟨Int.natCast_nonneg _, by rw [mi_len, RW_len T i _ h1, Int.toNat_natCast]; exact h2, (ix h2 (by decide)).2⟩, ?_⟩
    refine Xs.cons (X1.store' ?_ (by walk_at "u"))
    walk_at "Y"
    refine ⟨ix h2 (by decide), _, memT memH, _, ad_get ad h2, ?_⟩
    walk_at "Y"
    refine ⟨_, _, _, _, rfl, rfl, .tail (by rw [Int.toNat_natCast, mi_set]; exact rows4_set ad _ _ _ _ h2), ⟨Int.natCast_nonneg _, ?_, (ix h1 (by decide)).2⟩, ?_⟩
    · rw [mi_len, Int.toNat_natCast]
      unfold upd
      split
      · rw [List.length_set, RW_len T i _ h1]; exact h1
      · rw [RW_len T i _ h2]; exact h1
    rw [rows4_eq ad led (RW_step T i hi6)]
    walk_at "Y"
    exact ⟨(), trivial, by walk_at "has", rfl⟩
  · intro m s _ hm
    rw [show (tiesM T).length = 6 by simp [tiesM]]
    have r0 := (RW_6 T).1
    have r1 := (RW_6 T).2.1
    have r2 := (RW_6 T).2.2.1
    have r3 := (RW_6 T).2.2.2
    refine Xs.has hm ?_
    walk_at "Y"
    refine ⟨_, List.Sublist.refl _, ad 3, mi (RW T 6 3), Q, _, _, _, _, .tail .head, .head, .keep (.keep (.keep (.here .nil))), ?_⟩
    refine ⟨ad 2, mi (RW T 6 2), Q, _, _, _, _, .tail .head, .head, .keep (.keep (.here (.keep .nil))), ?_⟩
    refine ⟨ad 1, mi (RW T 6 1), Q, _, _, _, _, .tail .head, .head, .keep (.here (.keep (.keep .nil))), ?_⟩
    refine ⟨ad 0, mi (RW T 6 0), Q, _, _, _, _, .tail .head, .head, .here (.keep (.keep (.keep .nil))), ?_⟩
    exact ⟨Q, _, led, rfl, .head, rfl, by rw [r0, r1, r2, r3]; rfl⟩
end Mine

end

section
set_option maxRecDepth 100000
open PySem PySem.W PySem.Calls PyProof.Rows Yy
namespace Mine

/-! ### Kruskal: the ties that join are the shortest net, and lie as long as the least longest -/
theorem nets_eq (T : Nat → Int) : net0 T 6 = treesL.map fun t => T t.1 + T t.2.1 + T t.2.2 := rfl
theorem sers_inj : ∀ i < 6, ∀ j < 6, sers.getD i 0 = sers.getD j 0 → i = j := by decide
section
variable {mid : List PN} {T : Nat → Int} (hlex : mid.Pairwise LexK) (hp : mid.Perm ((List.range 6).map fun i => (T i, sers.getD i 0))) (h0 : ∀ i < 6, 0 ≤ T i)
/-- the length of a place -/
noncomputable def fL (mid : List PN) (i : Nat) : Int := (0 :: mid.map (·.1)).getD (min i 6) 0
include hp
theorem mid_len : mid.length = 6 := by rw [hp.length_eq]; rfl
theorem mid_of {p : PN} (h : p ∈ mid) : ∃ i < 6, p = (T i, sers.getD i 0) := by
  obtain ⟨i, hi, rfl⟩ := List.mem_map.mp (hp.mem_iff.mp h)
  exact ⟨i, List.mem_range.mp hi, rfl⟩
theorem ser_perm : (mid.map (·.2)).Perm sers := (hp.map _).trans (by rw [List.map_map]; exact List.Perm.refl _)
theorem fL_at {i : Nat} (h : i < 6) : fL mid (i + 1) = (mid[i]'(by rw [mid_len hp]; exact h)).1 := by
  unfold fL
  rw [Nat.min_eq_left h, List.getD_eq_getElem?_getD]
  show ((mid.map (·.1))[i]?).getD 0 = _
  rw [List.getElem?_map, List.getElem?_eq_getElem (by rw [mid_len hp]; exact h)]; rfl
theorem fL_pos {i : Nat} (h : i < 6) : fL mid ((psOf (mid.map (·.2))).getD i 0) = T i := by
  have e : (psOf (mid.map (·.2))).getD i 0 = posOf (mid.map (·.2)) (sers.getD i 0) := by
    unfold psOf
    rw [List.getD_eq_getElem?_getD, List.getElem?_map, List.getD_eq_getElem?_getD]
    have : i < sers.length := h
    rw [List.getElem?_eq_getElem this]; rfl
  rw [e]
  unfold posOf
  have hm : sers.getD i 0 ∈ mid.map (·.2) := (ser_perm hp).mem_iff.mpr (by
    rw [List.getD_eq_getElem?_getD, List.getElem?_eq_getElem (show i < sers.length from h)]
    exact List.getElem_mem _)
  have hk := List.idxOf_lt_length_of_mem hm
  have hk6 : (mid.map (·.2)).idxOf (sers.getD i 0) < 6 := by rw [List.length_map, mid_len hp] at hk; exact hk
  rw [fL_at hp hk6]
  have hg : (mid.map (·.2))[(mid.map (·.2)).idxOf (sers.getD i 0)] = sers.getD i 0 := List.getElem_idxOf hk
  rw [List.getElem_map] at hg
  obtain ⟨j, hj, ej⟩ := mid_of hp (List.getElem_mem (l := mid) (by rw [mid_len hp]; exact hk6))
  rw [ej] at hg ⊢
  rw [sers_inj j hj i h hg]
include hlex h0
theorem fL_mono : ∀ x y, x ≤ y → fL mid x ≤ fL mid y := by
  have hs : (0 :: mid.map (·.1)).Pairwise (· ≤ ·) := by
    refine List.pairwise_cons.mpr ⟨fun x hx => ?_, List.pairwise_map.mpr (hlex.imp fun h => ?_)⟩
    · obtain ⟨p, hp', rfl⟩ := List.mem_map.mp hx
      obtain ⟨i, hi, rfl⟩ := mid_of hp hp'
      exact h0 i hi
    · unfold LexK at h
      exact h.elim Int.le_of_lt fun e => Int.le_of_eq e.1
  intro x y hxy
  have hl : ∀ z, min z 6 < (0 :: mid.map (·.1)).length := fun z => by
    rw [List.length_cons, List.length_map, mid_len hp]; exact Nat.lt_succ_of_le (Nat.min_le_right _ _)
  have hxy' : min x 6 ≤ min y 6 := Nat.le_min.mpr ⟨Nat.le_trans (Nat.min_le_left _ _) hxy, Nat.min_le_right _ _⟩
  unfold fL
  rw [List.getD_eq_getElem?_getD, List.getD_eq_getElem?_getD, List.getElem?_eq_getElem (hl x), List.getElem?_eq_getElem (hl y)]
  rcases Nat.eq_or_lt_of_le hxy' with e | e
  · exact Int.le_of_eq (by congr 1; simp only [e])
  · exact List.pairwise_iff_getElem.mp hs _ _ (hl x) (hl y) e
theorem kruskal : (kall (0 : Int) mid).2.1 = wideM min max 0 (sqM T) ∧ ∃ a b c, (kall (0 : Int) mid).2.2 = [a, b, c] ∧ a + b + c ∈ net0 T 6 ∧ ∀ n ∈ net0 T 6, a + b + c ≤ n := by
  have mono := fL_mono hlex hp h0
  have h00 : fL mid 0 = 0 := rfl
  have em : mid = ((mid.map (·.2)).zipIdx.map fun x => (x.2 + 1, x.1)).map fun p => (fL mid p.1, p.2) := by
    apply List.ext_getElem
    · rw [List.length_map, List.length_map, List.length_zipIdx, List.length_map]
    · intro i h1 h2
      rw [List.getElem_map, List.getElem_map, List.getElem_zipIdx, List.getElem_map, Nat.zero_add]
      show mid[i] = (fL mid (i + 1), (mid[i]).2)
      rw [fL_at hp (by rw [mid_len hp] at h1; exact h1)]
  have hk : kall (0 : Int) mid = kmap (fL mid) (kall 0 ((mid.map (·.2)).zipIdx.map fun x => (x.2 + 1, x.1))) := by
    conv => lhs; rw [em]
    exact kall_map (fL mid) 0 _
  have hmin : ∀ x y, fL mid (min x y) = min (fL mid x) (fL mid y) := fun x y => by
    rcases Nat.le_total x y with h | h
    · rw [Nat.min_eq_left h, Int.min_eq_left (mono _ _ h)]
    · rw [Nat.min_eq_right h, Int.min_eq_right (mono _ _ h)]
  have hmax : ∀ x y, fL mid (max x y) = max (fL mid x) (fL mid y) := fun x y => by
    rcases Nat.le_total x y with h | h
    · rw [Nat.max_eq_right h, Int.max_eq_right (mono _ _ h)]
    · rw [Nat.max_eq_left h, Int.max_eq_left (mono _ _ h)]
  have hsq : sqM T = (farQ (psOf (mid.map (·.2)))).map (List.map (fL mid)) := by
    unfold sqM farQ
    simp only [List.map_cons, List.map_nil, fL_pos hp (show 0 < 6 by decide), fL_pos hp (show 1 < 6 by decide), fL_pos hp (show 2 < 6 by decide), fL_pos hp (show 3 < 6 by decide), fL_pos hp (show 4 < 6 by decide), fL_pos hp (show 5 < 6 by decide), h00]
  have hc := chk_of (ser_perm hp)
  unfold chk chk2 at hc
  generalize kall 0 ((mid.map (·.2)).zipIdx.map fun x => (x.2 + 1, x.1)) = s at hk hc
  obtain ⟨hs, J, st⟩ := s
  rw [Bool.and_eq_true] at hc
  obtain ⟨c1, c2⟩ := hc
  have hw := wideM_map (fL mid) hmin hmax 0 (farQ (psOf (mid.map (·.2))))
  rw [h00] at hw
  refine ⟨?_, ?_⟩
  · rw [hk, hsq, hw]
    show J.map (List.map (fL mid)) = _
    rw [show J = _ from eq_of_beq c1]
  · dsimp only at c2
    split at c2
    · rename_i a b c
      refine ⟨fL mid a, fL mid b, fL mid c, by rw [hk]; rfl, ?_, ?_⟩
      · unfold triOk at c2
        rw [Bool.and_eq_true] at c2
        obtain ⟨t, ht, e⟩ := List.any_eq_true.mp c2.2
        rw [nets_eq, equ_sound (f := fL mid) e]
        have hb : ∀ t ∈ treesL, t.1 < 6 ∧ t.2.1 < 6 ∧ t.2.2 < 6 := by decide
        obtain ⟨b1, b2, b3⟩ := hb t ht
        rw [fL_pos hp b1, fL_pos hp b2, fL_pos hp b3]
        exact List.mem_map.mpr ⟨t, ht, rfl⟩
      · intro n hn
        rw [nets_eq] at hn
        obtain ⟨t, ht, rfl⟩ := List.mem_map.mp hn
        unfold triOk at c2
        rw [Bool.and_eq_true] at c2
        have e := List.all_eq_true.mp c2.1 t ht
        have hb : ∀ t ∈ treesL, t.1 < 6 ∧ t.2.1 < 6 ∧ t.2.2 < 6 := by decide
        obtain ⟨b1, b2, b3⟩ := hb t ht
        have := dom_sound mono e
        rwa [fL_pos hp b1, fL_pos hp b2, fL_pos hp b3] at this
    · cases c2
end
end Mine

end

section
set_option maxRecDepth 100000
open PySem PySem.W PySem.Calls PyProof.Rows Yy
namespace Mine

/-! ### Kirchhoff: all nets in one number -/
theorem kirch (x0 x1 x2 x3 x4 x5 : Int) : ((x0 + x2 + x4) * (x1 + x2 + x5) - x2 ^ 2) * ((x0 + x2 + x4) * (x3 + x4 + x5) - x4 ^ 2) - ((x0 + x2 + x4) * x5 + x2 * x4) ^ 2
  = (x3*x1*x0 + (x3*x2*x0 + (x3*x2*x1 + (x4*x1*x0 + (x4*x2*x0 + (x4*x2*x1 + (x4*x3*x1 + (x4*x3*x2 + (x5*x1*x0 + (x5*x2*x0 + (x5*x2*x1 + (x5*x3*x0 + (x5*x3*x2 + (x5*x4*x0 + (x5*x4*x1 + (x5*x4*x3 + 0)))))))))))))))) * (x0 + x2 + x4) := by grind
theorem undig_set (n : Nat) (d : Int) : ∀ (l : List Int) (t : Nat) (v : Int), l[t]? = some v → undig n (l.set t (v + d)) = undig n l + d * (2 ^ n) ^ t
  | [], t, v, h => by cases h
  | y :: l, 0, v, h => by
    have e : y = v := Option.some.inj h
    subst e
    show (y + d) + 2 ^ n * undig n l = (y + 2 ^ n * undig n l) + d * (2 ^ n) ^ 0
    rw [Int.pow_zero, Int.mul_one, Int.add_right_comm]
  | y :: l, t + 1, v, h => by
    have ih := undig_set n d l t v h
    show y + 2 ^ n * undig n (l.set t (v + d)) = (y + 2 ^ n * undig n l) + d * (2 ^ n) ^ (t + 1)
    rw [ih, Int.mul_add, Int.pow_succ, ← Int.add_assoc, Int.mul_left_comm, Int.mul_comm (2 ^ n) ((2 ^ n) ^ t)]
theorem undig_zero (n : Nat) : ∀ k, undig n (List.replicate k 0) = 0
  | 0 => rfl
  | k + 1 => by
    show 0 + 2 ^ n * undig n (List.replicate k 0) = 0
    rw [undig_zero n k, Int.mul_zero]; rfl
theorem sum_dig (n M : Nat) (ns : List Nat) (hM : ∀ t ∈ ns, t ≤ M) : (ns.map fun t => ((2 : Int) ^ n) ^ t).sum = undig n (cntL (ns.map fun (t : Nat) => (t : Int)) M) := by
  have main : ∀ i, i ≤ ns.length → ((ns.take i).map fun t => ((2 : Int) ^ n) ^ t).sum = undig n (cntL ((ns.take i).map fun (t : Nat) => (t : Int)) M) := by
    intro i
    induction i with
    | zero => intro _; rw [List.take_zero]; show (0 : Int) = undig n (cntL [] M); rw [cntL_nil, undig_zero]
    | succ i ih =>
      intro hi
      have e : ns[i]? = some ns[i] := List.getElem?_eq_getElem hi
      have ht := hM _ (List.getElem_mem hi)
      rw [List.take_add_one, e]
      show ((ns.take i ++ [ns[i]]).map _).sum = undig n (cntL ((ns.take i ++ [ns[i]]).map _) M)
      rw [List.map_append, List.sum_append, ih (Nat.le_of_lt hi), List.map_append]
      show _ + (((2 : Int) ^ n) ^ ns[i] + 0) = undig n (cntL (_ ++ [((ns[i] : Nat) : Int)]) M)
      rw [← cntL_snoc, undig_set n 1 _ _ _ (cntL_get _ ht), Int.one_mul, Int.add_zero]
  have := main ns.length (Nat.le_refl _)
  rwa [List.take_length] at this
noncomputable def netsN (t : Nat → Nat) : List Nat := treesL.map fun s => t s.1 + t s.2.1 + t s.2.2
theorem netsN_cast (t : Nat → Nat) : net0 (fun i => ((t i : Nat) : Int)) 6 = (netsN t).map fun (k : Nat) => (k : Int) := by
  rw [nets_eq]
  unfold netsN
  rw [List.map_map]
  refine List.map_congr_left fun s _ => ?_
  show _ = ((t s.1 + t s.2.1 + t s.2.2 : Nat) : Int)
  rw [Int.natCast_add, Int.natCast_add]
/-- all nets, in one number -/
noncomputable def netW (n : Nat) (t : Nat → Nat) : Int := ((netsN t).map fun k => ((2 : Int) ^ n) ^ k).sum
noncomputable def xp (n : Nat) (t : Nat → Nat) (i : Nat) : Int := 2 ^ (n * t i)
theorem xp_mul (n : Nat) (t : Nat → Nat) (i j k : Nat) : ((2 : Int) ^ n) ^ (t i + t j + t k) = xp n t i * xp n t j * xp n t k := by
  unfold xp
  rw [Int.pow_add, Int.pow_add, ← Int.pow_mul, ← Int.pow_mul, ← Int.pow_mul]
theorem netW_eq (n : Nat) (t : Nat → Nat) : netW n t = (treesL.map fun s => xp n t s.1 * xp n t s.2.1 * xp n t s.2.2).sum := by
  unfold netW netsN
  rw [List.map_map]
  congr 1
  refine List.map_congr_left fun s _ => ?_
  exact xp_mul n t _ _ _
noncomputable def pivW (n : Nat) (t : Nat → Nat) : Int := xp n t 0 + xp n t 2 + xp n t 4
theorem whole_eq (n : Nat) (t : Nat → Nat) : (pivW n t * (xp n t 1 + xp n t 2 + xp n t 5) - xp n t 2 ^ 2) * (pivW n t * (xp n t 3 + xp n t 4 + xp n t 5) - xp n t 4 ^ 2) - (pivW n t * xp n t 5 + xp n t 2 * xp n t 4) ^ 2 = netW n t * pivW n t := by
  rw [netW_eq]
  unfold pivW
  generalize xp n t = x
  exact kirch (x 0) (x 1) (x 2) (x 3) (x 4) (x 5) -- (xp n t 0) (xp n t 1) (xp n t 2) (xp n t 3) (xp n t 4) (xp n t 5)
theorem xp_pos (n : Nat) (t : Nat → Nat) (i : Nat) : 0 < xp n t i := pow_pos2 _
theorem piv_pos (n : Nat) (t : Nat → Nat) : 0 < pivW n t := Int.add_pos (Int.add_pos (xp_pos n t 0) (xp_pos n t 2)) (xp_pos n t 4)
/-- the digits of all nets -/
theorem net_digs {n M : Nat} {t : Nat → Nat} (hn : 5 ≤ n) (hM : M ∈ netsN t) (hle : ∀ k ∈ netsN t, k ≤ M) : 0 ≤ netW n t ∧ (Builtin.Int.intBits (netW n t) + n - 1) / n = M + 1 ∧ digs n (M + 1) (netW n t) = cntL ((netsN t).map fun (k : Nat) => (k : Int)) M := by
  have e : netW n t = undig n (cntL ((netsN t).map fun (k : Nat) => (k : Int)) M) := sum_dig n M _ hle
  have h32 : (32 : Int) ≤ 2 ^ n := by
    rw [show n = 5 + (n - 5) from (Nat.add_sub_of_le hn).symm, Int.pow_add]
    exact Int.mul_le_mul_of_nonneg_left (a := 1) (pow_pos2 (n - 5)) (by decide)
  have hlen : (netsN t).length = 16 := rfl
  have hb : ∀ d ∈ cntL ((netsN t).map fun (k : Nat) => (k : Int)) M, 0 ≤ d ∧ d < 2 ^ n := by
    intro d hd
    obtain ⟨k, _, rfl⟩ := List.mem_map.mp hd
    refine ⟨Int.natCast_nonneg _, Int.lt_of_le_of_lt (Int.ofNat_le.mpr List.countP_le_length) (Int.lt_of_lt_of_le ?_ h32)⟩
    rw [List.length_map, hlen]; decide
  have hsplit : cntL ((netsN t).map fun (k : Nat) => (k : Int)) M = ((List.range M).map fun (k : Nat) => (((((netsN t).map fun (k : Nat) => (k : Int)).countP fun x => decide (x = (k : Int))) : Nat) : Int)) ++ [(((((netsN t).map fun (k : Nat) => (k : Int)).countP fun x => decide (x = (M : Int))) : Nat) : Int)] := by
    unfold cntL; rw [List.range_succ, List.map_append]; rfl
  have htop : 0 < ((((netsN t).map fun (k : Nat) => (k : Int)).countP fun x => decide (x = (M : Int)) : Nat) : Int) := by
    refine Int.ofNat_lt.mpr (List.countP_pos_iff.mpr ⟨(M : Int), List.mem_map.mpr ⟨M, hM, rfl⟩, by simp⟩)
  rw [e]
  refine ⟨?_, ?_, ?_⟩
  · exact (undig_bound n _ hb).1
  · have := undig_bits (n := n) (Nat.le_trans (by decide) hn) (by rw [← hsplit]; exact hb) htop
    rw [← hsplit] at this
    rw [this, cntL_len]
  · have := digs_undig n _ hb
    rwa [cntL_len] at this
/-- quotient and rest, with one sign and with both -/
theorem net_div {s N P t : Int} (hs : s = 1 ∨ s = -1) (hP : 0 < P) (h0 : 0 ≤ t) (h1 : t < P) :
    ((s * (N * P + t)).fdiv (s * P) = N ∧ (s * (N * P + t)).fmod (s * P) = s * t) ∧
    ((-s * (N * P + t)).fdiv (s * P) = -N - (if decide (t > 0) = true then 1 else 0) ∧ (-s * (N * P + t)).fmod (s * P) = s * (-t).fmod P) := by
  have ht : ¬ 0 < t → t = 0 := fun q => Int.le_antisymm (Int.not_lt.mp q) h0
  have hPt0 : 0 ≤ P - t := Int.sub_nonneg_of_le (Int.le_of_lt h1)
  have e1 : -(N * P + t) = (-N - 1) * P + (P - t) := by
    rw [Int.sub_mul, Int.neg_mul, Int.one_mul, ← Int.add_sub_assoc, Int.sub_add_cancel, Int.neg_add]; rfl
  have e2 : -t = (-1) * P + (P - t) := by
    rw [Int.neg_mul, Int.one_mul, Int.sub_eq_add_neg, ← Int.add_assoc, Int.add_left_neg, Int.zero_add]
  have hm : (-t).fmod P = if 0 < t then P - t else 0 := by
    split
    · exact (fd_of e2 (.inl ⟨hPt0, Int.sub_lt_self P ‹_›⟩)).2
    · rw [ht ‹_›]
      exact (fd_of (q := 0) (by rw [Int.zero_mul]; rfl) (.inl ⟨Int.le_refl 0, hP⟩)).2
  rw [hm]
  have neg : ∀ {a q r : Int}, a = q * P + r → 0 ≤ r → r < P → (-a).fdiv (-P) = q ∧ (-a).fmod (-P) = -r := fun {a q r} h x y =>
    fd_of (by rw [h, Int.mul_neg, Int.neg_add]) (.inr ⟨Int.neg_lt_neg y, Int.neg_nonpos_of_nonneg x⟩)
  have dn : (-(N * P + t)).fdiv P = -N - (if decide (t > 0) = true then 1 else 0) ∧ (-(N * P + t)).fmod P = (if 0 < t then P - t else 0) := by
    by_cases q : 0 < t
    · rw [if_pos q, if_pos (decide_eq_true q)]
      exact fd_of e1 (.inl ⟨hPt0, Int.sub_lt_self P q⟩)
    · rw [if_neg q, if_neg (by rw [decide_eq_true_eq]; exact q), ht q, Int.add_zero, Int.sub_zero]
      exact fd_of (by rw [Int.neg_mul, Int.add_zero]) (.inl ⟨Int.le_refl 0, hP⟩)
  have up : (N * P + t).fdiv (-P) = -N - (if decide (t > 0) = true then 1 else 0) ∧ (N * P + t).fmod (-P) = -(if 0 < t then P - t else 0) := by
    have h := dn
    by_cases q : 0 < t
    · rw [if_pos q, if_pos (decide_eq_true q)]
      have := neg e1 hPt0 (Int.sub_lt_self P q)
      rwa [Int.neg_neg] at this
    · rw [if_neg q, if_neg (by rw [decide_eq_true_eq]; exact q), ht q, Int.add_zero, Int.sub_zero]
      have := neg (a := -(N * P)) (q := -N) (r := 0) (by rw [Int.neg_mul, Int.add_zero]) (Int.le_refl 0) hP
      rwa [Int.neg_neg] at this
  rcases hs with rfl | rfl
  · rw [Int.one_mul, Int.one_mul, Int.one_mul, Int.one_mul, Int.neg_mul, Int.one_mul]
    exact ⟨fd_of rfl (.inl ⟨h0, h1⟩), dn⟩
  · rw [show (-1 : Int) * (N * P + t) = -(N * P + t) by rw [Int.neg_mul, Int.one_mul], show (-1 : Int) * P = -P by rw [Int.neg_mul, Int.one_mul], show (-1 : Int) * t = -t by rw [Int.neg_mul, Int.one_mul], show - (-1 : Int) * (N * P + t) = N * P + t by rw [Int.neg_neg, Int.one_mul], Int.neg_mul, Int.one_mul]
    exact ⟨neg rfl h0 h1, up⟩
end Mine

end

section
set_option maxRecDepth 100000
open PySem PySem.W PySem.Calls PyProof.Rows Yy
namespace Mine

/-! ### law 2: lengths of ties, and the shelf -/
theorem row_mods : ∀ c < 120, c % 40 % 2 = c % 2 ∧ c % 40 / 2 % 4 = c / 2 % 4 ∧ c % 40 / 8 % 5 = c / 8 % 5 := by decide
theorem rowS_mod {c m : Nat} (h : c < 120) : rowS c m = rowS (c % 40) m := by
  obtain ⟨h1, h2, h3⟩ := row_mods c h
  unfold rowS
  rw [h1, h2, h3]
noncomputable def farC (z c d : Nat) : Int := far (rowS c (z + 1)) (rowS d (z + 1))
theorem far_ok {z c d : Nat} (hz : z < 2) (hc : c < 120) (hd : d < 120) :
    lev (rowS c (z + 1)) (rowS d (z + 1)) (farC z c d) = farC z c d ∧ lev (rowS d (z + 1)) (rowS c (z + 1)) (farC z c d - 1) = farC z c d ∧ (0 ≤ farC z c d ∧ farC z c d ≤ 10) ∧ (farC z c d = 0 → rowS c (z + 1) = rowS d (z + 1)) := by
  have h := far40 z hz (c % 40) (Nat.mod_lt _ (by decide)) (d % 40) (Nat.mod_lt _ (by decide))
  unfold farOk at h
  rw [← rowS_mod hc, ← rowS_mod hd] at h
  rw [show far (rowS c (z + 1)) (rowS d (z + 1)) = farC z c d from rfl] at h
  simp only [Bool.and_eq_true, beq_iff_eq, decide_eq_true_eq, Bool.or_eq_true] at h
  obtain ⟨⟨⟨⟨h1, h2⟩, h3⟩, h4⟩, h5⟩ := h
  exact ⟨h1, h2, ⟨h3, h4⟩, fun q => h5.elim (fun w => absurd q w) id⟩
theorem rowS_lt (c m : Nat) : ∀ x ∈ rowS c m, x < 128 := fun x hx => (rowS_pl c m x hx).2

noncomputable def g2 (n : Nat) : List MV := [.int ((n / 4 : Nat) : Int), .int ((n % 4 : Nat) : Int)]
noncomputable def pre2 : List (Int × List MV) := List.replicate 3 (99, [.int 1, .int 0])
noncomputable def post2 : List (Int × List MV) := List.replicate 3 (-1, [.int 1, .int 0])
theorem g2_at {h l : Nat} (hl : l < 4) : g2 (4 * h + l) = [.int (h : Int), .int (l : Int)] := by
  unfold g2
  rw [Nat.mul_add_mod, Nat.mod_eq_of_lt hl, Nat.mul_add_div (by decide), Nat.div_eq_of_lt hl, Nat.add_zero]
noncomputable def prIn (D : Nat → Nat → Int) (h j : Nat) : List PN := (List.range j).map fun l => (D h l, 4 * h + l)
noncomputable def prAll (D : Nat → Nat → Int) : Nat → List PN
  | 0 => []
  | h + 1 => prAll D h ++ prIn D h h
theorem prIn_snoc (D : Nat → Nat → Int) (h j : Nat) : prIn D h (j + 1) = prIn D h j ++ [(D h j, 4 * h + j)] := by unfold prIn; rw [List.range_succ, List.map_append]; rfl
theorem prIn_len (D : Nat → Nat → Int) (h j : Nat) : (prIn D h j).length = j := by unfold prIn; rw [List.length_map, List.length_range]
theorem prIn_lt {D : Nat → Nat → Int} {h j : Nat} (hj : j ≤ 4) : ∀ q ∈ prIn D h j, q.2 < 4 * h + j ∧ 4 * h ≤ q.2 := by
  intro q hq
  obtain ⟨l, hl, rfl⟩ := List.mem_map.mp hq
  exact ⟨Nat.add_lt_add_left (List.mem_range.mp hl) _, Nat.le_add_right _ _⟩
theorem prAll_lt {D : Nat → Nat → Int} : ∀ (h : Nat), h ≤ 4 → ∀ q ∈ prAll D h, q.2 < 4 * h
  | 0, _, q, hq => absurd hq List.not_mem_nil
  | h + 1, hh, q, hq => by
    rw [prAll] at hq
    rw [Nat.mul_succ]
    rcases List.mem_append.mp hq with hq | hq
    · exact Nat.lt_of_lt_of_le (prAll_lt h (Nat.le_of_succ_le hh) q hq) (Nat.le_add_right _ _)
    · exact Nat.lt_of_lt_of_le (prIn_lt (Nat.le_of_succ_le hh) q hq).1 (Nat.add_le_add_left (Nat.le_of_succ_le hh) _)
theorem prAll_inc {D : Nat → Nat → Int} : ∀ (h : Nat), h ≤ 4 → (prAll D h).Pairwise (fun p q => p.2 < q.2)
  | 0, _ => .nil
  | h + 1, hh => by
    rw [prAll]
    refine List.pairwise_append.mpr ⟨prAll_inc h (Nat.le_of_succ_le hh), ?_, fun p hp q hq => ?_⟩
    · unfold prIn
      rw [List.pairwise_map]
      exact List.Pairwise.imp (fun hab => Nat.add_lt_add_left hab _) List.pairwise_lt_range
    · exact Nat.lt_of_lt_of_le (prAll_lt h (Nat.le_of_succ_le hh) p hp) (prIn_lt (Nat.le_of_succ_le hh) q hq).2
theorem prAll_len_le {D : Nat → Nat → Int} : ∀ (h : Nat), h ≤ 4 → (prAll D h).length ≤ 4 * h
  | 0, _ => Nat.le_refl 0
  | h + 1, hh => by
    rw [prAll, List.length_append, prIn_len, Nat.mul_succ]
    exact Nat.add_le_add (prAll_len_le h (Nat.le_of_succ_le hh)) (Nat.le_of_succ_le hh)
noncomputable def TT (D : Nat → Nat → Int) (i : Nat) : Int := D (hi i) (lo i)
theorem prAll_4 (D : Nat → Nat → Int) : prAll D 4 = (List.range 6).map fun i => (TT D i, sers.getD i 0) := rfl
end Mine

end

section
set_option maxRecDepth 100000
open PySem PySem.W PySem.Calls PyProof.Rows Yy
namespace Mine

/-! ### where a length begins and ends, told by how many are less -/
theorem split_count {zs : List Int} {q : Int → Bool} {j : Nat} (hj : j ≤ zs.length) (h1 : ∀ i y, i < j → zs[i]? = some y → q y = true) (h2 : ∀ i y, j ≤ i → zs[i]? = some y → q y = false) : zs.countP q = j := by
  have e : zs.countP q = (zs.take j).countP q + (zs.drop j).countP q := by rw [← List.countP_append, List.take_append_drop]
  have a : (zs.take j).countP q = j := by
    have hl : (zs.take j).length = j := by rw [List.length_take, Nat.min_eq_left hj]
    refine Eq.trans ?_ hl
    rw [List.countP_eq_length]
    intro y hy
    obtain ⟨i, hi, rfl⟩ := List.mem_iff_getElem.mp hy
    rw [hl] at hi
    rw [List.getElem_take]
    exact h1 i _ hi (List.getElem?_eq_getElem _)
  have b : (zs.drop j).countP q = 0 := by
    rw [List.countP_eq_zero]
    intro y hy
    obtain ⟨i, hi, rfl⟩ := List.mem_iff_getElem.mp hy
    rw [List.getElem_drop]
    rw [h2 (j + i) _ (Nat.le_add_right _ _) (List.getElem?_eq_getElem _)]
    decide
  rw [e, a, b]; rfl
/-- how many lengths are less than x -/
noncomputable def lessN (mid : List PN) (x : Int) : Nat := (mid.map (·.1)).countP fun y => decide (y < x)
section
variable {g : Nat → List MV} {pre post : List (Int × List MV)} {mid : List PN} {x : Int} {r : Nat}
theorem bl_at (h : IsBL (keysOf (shelfOf g pre post mid)) x pre.length (pre.length + mid.length) r) : r = pre.length + lessN mid x := by
  obtain ⟨h1, h2, h3, h4⟩ := h
  obtain ⟨j, rfl⟩ := Nat.exists_eq_add_of_le h1
  have hj : j ≤ mid.length := Nat.le_of_add_le_add_left h2
  congr 1
  refine (split_count (q := fun y => decide (y < x)) (zs := mid.map (·.1)) (by rw [List.length_map]; exact hj) (fun i y hi e => ?_) (fun i y hi e => ?_)).symm
  · rw [List.getElem?_map] at e
    have hl : i < mid.length := Nat.lt_of_lt_of_le hi hj
    rw [List.getElem?_eq_getElem hl] at e
    cases e
    exact decide_eq_true (h3 _ _ (Nat.le_add_right _ _) (Nat.add_lt_add_left hi _) (key_mid hl))
  · rw [List.getElem?_map] at e
    have hl : i < mid.length := by
      rcases Nat.lt_or_ge i mid.length with q | q
      · exact q
      · rw [List.getElem?_eq_none q] at e; cases e
    rw [List.getElem?_eq_getElem hl] at e
    cases e
    exact decide_eq_false (Int.not_lt.mpr (h4 _ _ (Nat.add_le_add_left hi _) (Nat.add_lt_add_left hl _) (key_mid hl)))
theorem br_at (h : IsBR (keysOf (shelfOf g pre post mid)) x pre.length (pre.length + mid.length) r) : r = pre.length + lessN mid (x + 1) := by
  obtain ⟨h1, h2, h3, h4⟩ := h
  obtain ⟨j, rfl⟩ := Nat.exists_eq_add_of_le h1
  have hj : j ≤ mid.length := Nat.le_of_add_le_add_left h2
  congr 1
  refine (split_count (q := fun y => decide (y < x + 1)) (zs := mid.map (·.1)) (by rw [List.length_map]; exact hj) (fun i y hi e => ?_) (fun i y hi e => ?_)).symm
  · rw [List.getElem?_map] at e
    have hl : i < mid.length := Nat.lt_of_lt_of_le hi hj
    rw [List.getElem?_eq_getElem hl] at e
    cases e
    exact decide_eq_true (Int.lt_add_one_of_le (h3 _ _ (Nat.le_add_right _ _) (Nat.add_lt_add_left hi _) (key_mid hl)))
  · rw [List.getElem?_map] at e
    have hl : i < mid.length := by
      rcases Nat.lt_or_ge i mid.length with q | q
      · exact q
      · rw [List.getElem?_eq_none q] at e; cases e
    rw [List.getElem?_eq_getElem hl] at e
    cases e
    exact decide_eq_false (Int.not_lt.mpr (Int.add_one_le_of_lt (h4 _ _ (Nat.add_le_add_left hi _) (Nat.add_lt_add_left hl _) (key_mid hl))))
theorem bl0_at (h : IsBL (mid.map (·.1)) x 0 (mid.map (·.1)).length r) : r = lessN mid x :=
  (split_count h.2.1 (fun i y hi e => decide_eq_true (h.2.2.1 i y (Nat.zero_le _) hi e)) (fun i y hi e => decide_eq_false (Int.not_lt.mpr (h.2.2.2 i y hi (List.getElem?_eq_some_iff.mp e).1 e)))).symm
theorem br0_at (h : IsBR (mid.map (·.1)) x 0 (mid.map (·.1)).length r) : r = lessN mid (x + 1) :=
  (split_count h.2.1 (fun i y hi e => decide_eq_true (Int.lt_add_one_of_le (h.2.2.1 i y (Nat.zero_le _) hi e))) (fun i y hi e => decide_eq_false (Int.not_lt.mpr (Int.add_one_le_of_lt (h.2.2.2 i y hi (List.getElem?_eq_some_iff.mp e).1 e))))).symm
theorem lessN_le (mid : List PN) (x : Int) : lessN mid x ≤ mid.length := by
  unfold lessN
  exact Nat.le_trans List.countP_le_length (by rw [List.length_map]; exact Nat.le_refl _)
theorem lessN_mono (mid : List PN) {x y : Int} (h : x ≤ y) : lessN mid x ≤ lessN mid y :=
  List.countP_mono_left fun z _ hz => decide_eq_true (Int.lt_of_lt_of_le (of_decide_eq_true hz) h)
/-- a tie that stands between the cuts is so long -/
theorem between (hs : mid.Pairwise LexK) {i : Nat} {x : Int} (h1 : lessN mid x ≤ i) (h2 : i < lessN mid (x + 1)) (hl : i < mid.length) : (mid[i]).1 = x := by
  have sorted : ∀ a b (ha : a < mid.length) (hb : b < mid.length), a ≤ b → (mid[a]).1 ≤ (mid[b]).1 := fun a b ha hb hab => lexK_le hs hab hb
  have up : ∀ y : Int, (mid[i]).1 < y → i < lessN mid y := fun y hy => by
    have : (mid.take (i + 1)).length = i + 1 := by rw [List.length_take, Nat.min_eq_left hl]
    unfold lessN
    have e : (mid.map (·.1)) = (mid.take (i + 1)).map (·.1) ++ (mid.drop (i + 1)).map (·.1) := by rw [← List.map_append, List.take_append_drop]
    rw [e, List.countP_append]
    refine Nat.lt_of_lt_of_le (Nat.lt_succ_self i) (Nat.le_trans (Nat.le_of_eq ?_) (Nat.le_add_right _ _))
    refine Eq.trans ?_ (List.countP_eq_length.mpr ?_).symm
    · rw [List.length_map, this]
    · intro z hz
      obtain ⟨p, hp, rfl⟩ := List.mem_map.mp hz
      obtain ⟨k, hk, rfl⟩ := List.mem_iff_getElem.mp hp
      rw [this] at hk
      rw [List.getElem_take]
      exact decide_eq_true (Int.lt_of_le_of_lt (sorted k i _ hl (Nat.le_of_lt_succ hk)) hy)
  have down : ∀ y : Int, y ≤ (mid[i]).1 → lessN mid y ≤ i := fun y hy => by
    unfold lessN
    have e : (mid.map (·.1)) = (mid.take i).map (·.1) ++ (mid.drop i).map (·.1) := by rw [← List.map_append, List.take_append_drop]
    rw [e, List.countP_append]
    have z : ((mid.drop i).map (·.1)).countP (fun v => decide (v < y)) = 0 := by
      rw [List.countP_eq_zero]
      intro v hv
      obtain ⟨p, hp, rfl⟩ := List.mem_map.mp hv
      obtain ⟨k, hk, rfl⟩ := List.mem_iff_getElem.mp hp
      rw [List.getElem_drop, decide_eq_true_eq]
      exact Int.not_lt.mpr (Int.le_trans hy (sorted i _ hl _ (Nat.le_add_right _ _)))
    rw [z]
    exact Nat.le_trans List.countP_le_length (by rw [List.length_map, List.length_take]; exact Nat.min_le_left _ _)
  refine Int.le_antisymm ?_ ?_
  · rcases Int.lt_or_le x (mid[i]).1 with q | q
    · exact absurd h2 (Nat.not_lt.mpr (down _ (Int.add_one_le_of_lt q)))
    · exact q
  · rcases Int.lt_or_le (mid[i]).1 x with q | q
    · exact absurd (up _ q) (Nat.not_lt.mpr h1)
    · exact q
end
end Mine

end

section
set_option maxRecDepth 100000
open PySem PySem.W PySem.Calls PyProof.Rows Yy
namespace Mine




theorem half_mid {cnt L R : Nat} (h : 2 ≤ cnt) (hR : R = L + cnt) : ∃ j i : Nat, 1 ≤ j ∧ 1 ≤ i ∧ cnt = j + i ∧ ((L : Int) + R).fdiv (2 ^ Int.toNat 1) = ((L + j : Nat) : Int) := by
  refine ⟨cnt / 2, cnt - cnt / 2, Nat.div_pos h (by decide), Nat.sub_pos_of_lt (Nat.div_lt_self (Nat.lt_of_lt_of_le (by decide) h) (by decide)), (Nat.add_sub_of_le (Nat.div_le_self cnt 2)).symm, ?_⟩
  rw [Int.fdiv_eq_ediv_of_nonneg _ (by decide), hR, show ((2 : Int) ^ Int.toNat 1) = 2 from rfl]
  show (((L + (L + cnt)) / 2 : Nat) : Int) = _
  rw [← Nat.add_assoc, ← Nat.two_mul, Nat.mul_add_div (by decide)]
theorem mid_shift {L j n : Nat} : (((L + j : Nat) : Int) - L) * n = ((n * j : Nat) : Int) := by
  rw [Int.natCast_add, Int.add_comm, Int.add_sub_cancel, Int.natCast_mul, Int.mul_comm]
theorem sh_ok {b x m N : Nat} (h : b ≤ m) (hN : x + m = N) (hz : N ≤ 2 ^ 20) : (b : Int) + (x : Int) ≤ 2 ^ 27 :=
  Int.le_trans (Int.ofNat_le.mpr (show b + x ≤ 2 ^ 20 from Nat.le_trans (Nat.add_le_add_right h x) (by rw [Nat.add_comm]; exact hN ▸ hz))) (by decide)
theorem one_more {L R cnt : Nat} (hR : R = L + cnt) : ((L : Int) + 1 = R → cnt = 1) ∧ (1 ≤ cnt → ¬ ((L : Int) + 1 = R) → 2 ≤ cnt) := by
  subst hR
  exact ⟨fun e => (Nat.add_left_cancel (Int.ofNat_inj.mp (show ((L + 1 : Nat) : Int) = ((L + cnt : Nat) : Int) from e))).symm, fun h1 h2 => Nat.lt_of_le_of_ne h1 fun e => h2 (by rw [← e]; rfl)⟩

set_option maxHeartbeats 4000000 in
theorem i2d_core {w : World} {h₀ : Heap} (C : Cx h₀ w.params) (M : MkOk h₀ (79 - 1) (79 - 5)) : ∃ pos, ∀ {A : Around} {st : TabSt} {rest : Led} {a : Int} {n k : Nat}, TabGood (S "_int2digits.<locals>.inner") st → 1 ≤ n → n ≤ 2 ^ 20 → 0 ≤ a → k = (Builtin.Int.intBits a + n - 1) / n → n * k ≤ 2 ^ 20 → Rm A (k + 4) →
    Cl pw w h₀ A (tabE (79 - 5) pos st ++ rest) (.obj 79) [.int a, .int n] [] (fun l v => ∃ st', TabGood (S "_int2digits.<locals>.inner") st' ∧ l = tabE (79 - 5) pos st' ++ rest ∧ v = .lst (mi (digs n k a))) := by
  apply Exists.intro
  intro A st rest a n k hg hn hn2 ha hk hnk hA
  refine Cl.frz (Cl.defC C.nol (.inl (C.inK _ _ (by walk_at "u"))) (codeOf C.inK (by walk_at "u")) hA (Binds.of_eq [S "a", S "n"] (all2 rfl fun x y => by walk_at "u")) (fun c L A' hA' => ⟨_, (c 2, .cell Option.none) :: (c 1, .cell Option.none) :: (c 0, .cell (some (.int n))) :: (tabE (79 - 5) _ st ++ rest), .loc (by walk_at "u") (.cell (by walk_at "u") (by walk_at "u") (by walk_at "set") .nil), ?_⟩))
  have hh := hA'.handled
  have sz : sizeLine = 2 ^ 24 := rfl
  have hk20 : k ≤ 2 ^ 20 := Nat.le_trans (Nat.le_mul_of_pos_left k hn) hnk
  refine Xs.cons (X1.assignC' (c := c 1) (by walk_at "u") (by walk_at "u") (by walk_at "u") (E1.mulL (E1.list (Es.co (E1.int (Es.ni (NewL.frz ⟨[.int 0], rfl, ?_⟩)))) (by walk_at "u"))) (by walk_at "u"))
  walk_at "Y"
  refine E1.meth meth_bits ?_ (by walk_at "u") (by walk_at "u") (by walk_at "u") (by decide)
  walk_at "Y"
  refine ⟨rfl, ?_⟩
  walk_at "Y"
  refine b_bits ⟨_, rfl, ?_⟩
  walk_at "Y"
  refine BinQ.fdivI ?_ (Int.ne_of_gt (Int.natCast_pos.mpr hn)) (PyProof.noPylong_small (Nat.lt_of_le_of_lt (show (n : Int).natAbs ≤ 2 ^ 20 from hn2) (by decide)))
  have ek : ((Builtin.Int.intBits a : Int) + n - 1).fdiv n = (k : Nat) := by
    rw [Int.fdiv_eq_ediv_of_nonneg _ (Int.natCast_nonneg n), hk]
    have : ((Builtin.Int.intBits a : Int) + n - 1) = ((Builtin.Int.intBits a + n - 1 : Nat) : Int) := (Int.ofNat_sub (Nat.le_trans hn (Nat.le_add_left n _))).symm
    rw [this]; rfl
  rw [ek]
  have ez : (List.replicate k [MV.int 0]).flatten = mi (List.replicate k 0) := by
    clear ek hk hnk hk20 hA hA'
    induction k with
    | zero => rfl
    | succ k ih => rw [List.replicate_succ, List.flatten_cons, ih]; rfl
  refine ⟨k, rfl, ⟨Int.natCast_nonneg _, ncl hk20 (by decide), by rw [Int.toNat_natCast, List.length_singleton, Nat.one_mul]; exact Nat.le_trans hk20 (by decide)⟩, ?_⟩
  rw [Int.toNat_natCast, ez]
  refine NewL.own (fun Dg => ⟨_, .tail (.tail .head), ?_⟩) (by rw [mi_len, List.length_replicate]; exact Nat.le_trans hk20 (by decide))
  -- def inner
  refine Xs.cons (X1.def (st := st) (pre := [(Dg, .list (mi (List.replicate k 0))), (c 2, .cell Option.none), (c 1, .cell (some (.obj Dg))), (c 0, .cell (some (.int n)))]) (rest := rest) M (by walk_at "u") rfl hg (by walk_at "u") (by walk_at "u") (by walk_at "u") (by walk_at "u") (by walk_at "u") (by walk_at "u") (by walk_at "u") (by walk_at "u") (by walk_at "u") ?_)
  intro f c' oc fo hfo hgd
  refine ⟨_, .tail .head, ?_⟩
  have inner : ∀ cnt, 1 ≤ cnt → n * cnt ≤ 2 ^ 20 → ∀ (A : Around) (LL : List MV → Led), IL Dg [(f, .prd (· = fo)), (c', .prd (· = oc)), (c 0, .cell (some (.int n))), (c 1, .cell (some (.obj Dg))), (c 2, .cell (some (.obj f)))] LL → ∀ (L R : Nat) (x : Int) (ds : List Int), R = L + cnt → R ≤ ds.length → ds.length ≤ 2 ^ 20 → 0 ≤ x → x < 2 ^ (n * cnt) → Rm A (cnt + 1) →
      Cl pw w h₀ A (LL (mi ds)) (.obj f) [.int x, .int L, .int R] [] (fun l v => v = .none ∧ l = LL (mi (ds.take L ++ digs n cnt x ++ ds.drop R))) := by
    intro cnt
    induction cnt using Nat.strongRecOn with
    | ind cnt ih =>
      intro h1 hnc A LL hIL L R x ds hR hRl hdl hx0 hx1 hA
      obtain ⟨ctv, doc, pm, rfl⟩ := hfo
      refine Cl.defC C.nol (.inr (hIL.mem _ (.head _) _)) (codeOfT hgd (hIL.mem _ (.tail _ (.head _)) _)) hA (Binds.of_eq [S "x", S "L", S "R"] (all3 rfl fun x y z => by walk_at "u")) (fun cc L' A' hA' => ⟨_, LL (mi ds), .loc (by walk_at "u") (.loc (by walk_at "u") (.loc (by walk_at "u") .nil)), ?_⟩)
      have hh := hA'.handled
      walk_at "Y"
      refine two_dec (fun z => ?_) (fun z => ?_)
      · have ec : cnt = 1 := (one_more hR).1 z
        subst ec
        refine Xs.cons (X1.store' ?_ (by walk_at "u"))
        walk_at "Y"
        refine E1.free (by walk_at "u") (by walk_at "u") (by walk_at "u") (hIL.mem _ (.tail _ (.tail _ (.tail _ (.head _)))) _) ?_ (by walk_at "u") (by walk_at "u")
        walk_at "Y"
        have hL : L < ds.length := Nat.lt_of_lt_of_le (hR ▸ Nat.lt_succ_self L) hRl
        refine ⟨Dg, L, mi ds, _, rfl, rfl, hIL.set _ _, ⟨Int.natCast_nonneg _, by rw [mi_len, Int.toNat_natCast]; exact hL, ncl (Nat.le_trans (Nat.le_of_lt hL) hdl) (by decide)⟩, ?_⟩
        refine Xs.cons (X1.ret0 ⟨_, List.Sublist.refl _, rfl, ?_⟩)
        congr 1
        rw [mi_set, Int.toNat_natCast, digs_one hx0 (by simpa using hx1), hR]
        congr 1
        rw [List.set_eq_take_append_cons_drop, if_pos hL]
        simp
      · refine Exists.elim (half_mid ((one_more hR).2 h1 z) hR) fun j H => Exists.elim H fun i H => ?_
        have hj1 := H.1
        have hi1 := H.2.1
        have ecnt := H.2.2.1
        have em := H.2.2.2
        clear H
        subst ecnt
        have esh : (((L + j : Nat) : Int) - L) * n = ((n * j : Nat) : Int) := mid_shift
        have hspl : n * (j + i) = n * j + n * i := Nat.mul_add ..
        have hsh : n * j ≤ n * (j + i) := Nat.mul_le_mul_left n (Nat.le_add_right _ _)
        have hsi : n * i ≤ n * (j + i) := Nat.mul_le_mul_left n (Nat.le_add_left _ _)
        have hsplp : (2 : Int) ^ (n * (j + i)) = 2 ^ (n * j) * 2 ^ (n * i) := by rw [hspl, Int.pow_add]
        have hLj : L + j ≤ ds.length := Nat.le_trans (Nat.add_le_add_left (Nat.le_add_right j i) L) (hR ▸ hRl)
        have hL : L ≤ ds.length := Nat.le_trans (Nat.le_add_right _ _) hLj
        have hp1 := pow_pos2 (n * (j))
        have hu0 : 0 ≤ x / 2 ^ (n * (j)) := Int.ediv_nonneg hx0 (Int.le_of_lt hp1)
        have hu1 : x / 2 ^ (n * (j)) < 2 ^ (n * (i)) := by
          rw [hsplp, Int.mul_comm] at hx1
          exact Int.ediv_lt_of_lt_mul hp1 hx1
        have hl0 : 0 ≤ x % 2 ^ (n * (j)) := Int.emod_nonneg _ (Int.ne_of_gt hp1)
        have hl1 : x % 2 ^ (n * (j)) < 2 ^ (n * (j)) := Int.emod_lt_of_pos _ hp1
        have hcn : (c 0, LC.cell (some (.int n))) ∈ LL (mi ds) := hIL.mem _ (.tail _ (.tail _ (.head _))) _
        walk_at "Y"
        refine BinQ.shrI ?_ (by decide)
        rw [em]
        walk_at "Y"
        refine E1.free (by walk_at "u") (by walk_at "u") (by walk_at "u") hcn ?_ (by walk_at "u") (by walk_at "u")
        refine BinQ.mulI ?_ (IntMulOk.of_right (Nat.le_trans (bits_le (m := 21) (Int.natCast_nonneg _) (ncl hn2 (by decide))) (by decide)))
        rw [esh]
        walk_at "Y"
        refine BinQ.shrI ?_ (Int.natCast_nonneg _)
        rw [Int.toNat_natCast, fdiv_pow]
        walk_at "Y"
        have hsb : (Builtin.Int.intBits (x / 2 ^ (n * (j))) : Int) + ((n * (j) : Nat) : Int) ≤ 2 ^ 27 := by
          exact sh_ok (bits_le hu0 hu1) hspl.symm hnc
        refine BinQ.shlI ?_ ⟨Int.natCast_nonneg _, hsb⟩
        rw [Int.toNat_natCast]
        walk_at "Y"
        rw [bXor_high hx0]
        walk_at "Y"
        -- inner(lower, L, mid)
        have hIL1 : ∀ p, IL Dg [(f, .prd (· = _)), (c', .prd (· = oc)), (c 0, .cell (some (.int n))), (c 1, .cell (some (.obj Dg))), (c 2, .cell (some (.obj f)))] (fun ys => p :: LL ys) := fun p => hIL.cons p
        refine X1.expr (E1.call (E1.free (by walk_at "u") (by walk_at "u") (by walk_at "u") (hIL.mem _ (.tail _ (.tail _ (.tail _ (.tail _ (.head _))))) _) ?_ (by walk_at "u") (by walk_at "u")) (by walk_at "u")) (by walk_at "u") (by walk_at "u")
        walk_at "Y"
        refine Cl.onE (ih j (Nat.lt_add_of_pos_right hi1) hj1 (Nat.le_trans hsh hnc) A' _ (hIL1 _) L (L + j) _ ds rfl hLj hdl hl0 hl1 (hA'.less (Nat.add_le_add_left hi1 j))) ?_
        refine ⟨_, rfl, rfl, ?_⟩
        -- inner(upper, mid, R)
        refine Xs.cons (X1.expr (E1.call (E1.free (by walk_at "u") (by walk_at "u") (by walk_at "u") (hIL.mem _ (.tail _ (.tail _ (.tail _ (.tail _ (.head _))))) _) ?_ (by walk_at "u") (by walk_at "u")) (by walk_at "u")) (by walk_at "u") (by walk_at "u"))
        walk_at "Y"
        have hlen : (List.take L ds ++ digs n j (x % 2 ^ (n * j))).length = L + j := by rw [List.length_append, List.length_take, digs_len, Nat.min_eq_left hL]
        have hl3 : (List.take L ds ++ digs n (j) (x % 2 ^ (n * (j))) ++ List.drop (L + j) ds).length = ds.length := by
          rw [List.length_append, hlen, List.length_drop, Nat.add_sub_of_le hLj]
        refine Cl.onE (ih i (Nat.lt_add_of_pos_left hj1) hi1 (Nat.le_trans hsi hnc) A' _ (hIL1 _) (L + j) R _ _ (by rw [hR, Nat.add_assoc]) (by rw [hl3]; exact hRl) (by rw [hl3]; exact hdl) hu0 hu1 (hA'.less (by rw [Nat.add_comm]; exact Nat.add_le_add_right hj1 i))) ?_
        refine ⟨_, rfl, rfl, ?_⟩
        refine Xs.nil ⟨_, List.Sublist.refl _, rfl, ?_⟩
        congr 2
        have e1 : List.take (L + j) (List.take L ds ++ digs n (j) (x % 2 ^ (n * (j))) ++ List.drop (L + j) ds) = List.take L ds ++ digs n (j) (x % 2 ^ (n * (j))) := by
          exact List.take_left' hlen
        have e2 : List.drop R (List.take L ds ++ digs n j (x % 2 ^ (n * j)) ++ List.drop (L + j) ds) = List.drop R ds := by
          have hRR : R = (List.take L ds ++ digs n j (x % 2 ^ (n * j))).length + i := by rw [hlen, hR, Nat.add_assoc]
          rw [hRR, List.drop_length_add_append, List.drop_drop, hlen]
        have e3 := digs_app n j i x
        rw [e1, e2, e3, List.append_assoc (List.take L ds)]
  have hILm : ∀ (pos : Pos) p, IL Dg [(f, .prd (· = fo)), (c', .prd (· = oc)), (c 0, .cell (some (.int n))), (c 1, .cell (some (.obj Dg))), (c 2, .cell (some (.obj f)))] (fun ys => p :: (f, .prd (· = fo)) :: (Dg, .list ys) :: (c 2, .cell (some (.obj f))) :: (c 1, .cell (some (.obj Dg))) :: (c 0, .cell (some (.int n))) :: (tabE (79 - 5) pos (some (c', oc)) ++ rest)) := fun pos p =>
    ⟨fun e he ys => by
      simp only [List.mem_cons, List.not_mem_nil, or_false] at he
      rcases he with rfl | rfl | rfl | rfl | rfl <;> simp [tabE], fun xs ys => .tail (.tail .head)⟩
  simp only [List.cons_append, List.nil_append]
  walk_at "Y"
  refine two_dec (fun z => ?_) (fun z => ?_)
  · have hk1 : 1 ≤ k := by
      have hb : 1 ≤ Builtin.Int.intBits a := bits_pos (Int.lt_iff_le_and_ne.mpr ⟨ha, Ne.symm z⟩)
      rw [hk]
      exact (Nat.le_div_iff_mul_le hn).mpr (Nat.le_sub_of_add_le (by rw [Nat.one_mul, Nat.add_comm]; exact Nat.add_le_add_right hb n))
    have hax : a < 2 ^ (n * k) := bits_lt ha (hk ▸ ceil_ge hn)
    walk_at "Y"
    refine X1.expr (E1.call ?_ (by walk_at "u")) (by walk_at "u") (by walk_at "u")
    walk_at "Y"
    refine f_lenO (by walk_at "mem") (by rw [mi_len, List.length_replicate]; exact hk20) ?_
    refine Es.ni ?_
    rw [mi_len, List.length_replicate]
    refine Cl.onE (inner k hk1 hnk A' _ (hILm _ _) 0 k a (List.replicate k 0) (Nat.zero_add k).symm (Nat.le_of_eq List.length_replicate.symm) (by rw [List.length_replicate]; exact hk20) ha hax (hA'.less (Nat.add_le_add_left (by decide) k))) ?_
    refine ⟨_, rfl, rfl, ?_⟩
    walk_at "Y"
    refine ⟨(Dg, .list (mi (digs n k a))) :: (tabE (79 - 5) _ (some (c', oc)) ++ rest), ?_, Dg, _, _, rfl, .head, some (c', oc), hgd, rfl, rfl⟩
    rw [List.take_zero, List.nil_append, List.drop_of_length_le (by simp), List.append_nil]
    exact .cons _ (.cons_cons _ (.cons _ (.cons _ (.cons _ (List.Sublist.refl _)))))
  · have ea : a = 0 := by simpa using z
    have e0 : k = 0 := by
      rw [hk, ea]
      exact Nat.div_eq_of_lt (by rw [show Builtin.Int.intBits 0 = 0 from by decide, Nat.zero_add]; exact Nat.sub_lt hn Nat.zero_lt_one)
    walk_at "Y"
    refine ⟨(Dg, .list (mi (digs n k a))) :: (tabE (79 - 5) _ (some (c', oc)) ++ rest), ?_, Dg, _, _, rfl, .head, some (c', oc), hgd, rfl, rfl⟩
    rw [e0]
    exact .cons _ (.cons_cons _ (.cons _ (.cons _ (.cons _ (List.Sublist.refl _)))))

theorem undig_take_drop (n : Nat) (ds : List Int) (L j k : Nat) (h : L + j + k ≤ ds.length) : undig n ((ds.drop L).take (j + k)) = undig n ((ds.drop L).take j) + 2 ^ (n * j) * undig n ((ds.drop (L + j)).take k) := by
  have e : (ds.drop L).take (j + k) = (ds.drop L).take j ++ (ds.drop (L + j)).take k := by
    rw [List.take_add, List.drop_drop]
  have el : ((ds.drop L).take j).length = j := by rw [List.length_take, List.length_drop]; exact Nat.min_eq_left (Nat.le_sub_of_add_le (Nat.le_trans (Nat.add_comm j L ▸ Nat.le_add_right _ k) h))
  rw [e, undig_app, el]

set_option maxHeartbeats 4000000 in
theorem d2i_core {w : World} {h₀ : Heap} (C : Cx h₀ w.params) (M : MkOk h₀ (86 - 1) (86 - 5)) : ∃ pos, ∀ {A : Around} {st : TabSt} {rest : Led} {ds : List Int} {n : Nat}, TabGood (S "_digits2int.<locals>.inner") st → 1 ≤ n → n ≤ 2 ^ 20 → n * ds.length ≤ 2 ^ 20 → (∀ d ∈ ds, 0 ≤ d ∧ d < 2 ^ n) → Rm A (ds.length + 4) →
    Cl pw w h₀ A (tabE (86 - 5) pos st ++ rest) (.obj 86) [.lst (mi ds), .int n] [] (fun l v => ∃ st', TabGood (S "_digits2int.<locals>.inner") st' ∧ l = tabE (86 - 5) pos st' ++ rest ∧ v = .int (undig n ds)) := by
  apply Exists.intro
  intro A st rest ds n hg hn hn2 hnk hds hA
  refine Cl.defC C.nol (.inl (C.inK _ _ (by walk_at "u"))) (codeOf C.inK (by walk_at "u")) hA (Binds.of_eq [S "digits", S "n"] (all2 rfl fun x y => by walk_at "u")) (fun c L A' hA' => ⟨_, (c 2, .cell Option.none) :: (c 1, .cell (some (.int n))) :: (c 0, .cell (some (.lst (mi ds)))) :: (tabE (86 - 5) _ st ++ rest), .cell (l1 := (c 2, .cell Option.none) :: (c 1, .cell Option.none) :: (c 0, .cell (some (.lst (mi ds)))) :: (tabE (86 - 5) _ st ++ rest)) (by walk_at "u") (by walk_at "u") (by walk_at "set") (.cell (by walk_at "u") (by walk_at "u") (by walk_at "set") .nil), ?_⟩)
  have hh := hA'.handled
  have sz : sizeLine = 2 ^ 24 := rfl
  have hk20 : ds.length ≤ 2 ^ 20 := Nat.le_trans (Nat.le_mul_of_pos_left _ hn) hnk
  refine Xs.cons (X1.def (st := st) (pre := [(c 2, .cell Option.none), (c 1, .cell (some (.int n))), (c 0, .cell (some (.lst (mi ds))))]) (rest := rest) M (by walk_at "u") rfl hg (by walk_at "u") (by walk_at "u") (by walk_at "u") (by walk_at "u") (by walk_at "u") (by walk_at "u") (by walk_at "u") (by walk_at "u") (by walk_at "u") ?_)
  intro f c' oc fo hfo hgd
  refine ⟨_, .head, ?_⟩
  have inner : ∀ cnt, 1 ≤ cnt → ∀ (A : Around) (led : Led), (∀ e ∈ [(f, .prd (· = fo)), (c', .prd (· = oc)), (c 0, .cell (some (.lst (mi ds)))), (c 1, .cell (some (.int n))), (c 2, .cell (some (.obj f)))], e ∈ led) → ∀ (L R : Nat), R = L + cnt → R ≤ ds.length → Rm A (cnt + 1) →
      Cl pw w h₀ A led (.obj f) [.int L, .int R] [] (fun l v => l = led ∧ v = .int (undig n ((ds.drop L).take cnt))) := by
    intro cnt
    induction cnt using Nat.strongRecOn with
    | ind cnt ih =>
      intro h1 A led hE L R hR hRl hA
      obtain ⟨ctv, doc, pm, rfl⟩ := hfo
      refine Cl.defC C.nol (.inr (hE _ (.head _))) (codeOfT hgd (hE _ (.tail _ (.head _)))) hA (Binds.of_eq [S "L", S "R"] (all2 rfl fun x y => by walk_at "u")) (fun cc L' A' hA' => ⟨_, led, .loc (by walk_at "u") (.loc (by walk_at "u") .nil), ?_⟩)
      have hh := hA'.handled
      have hcd : (c 0, LC.cell (some (.lst (mi ds)))) ∈ led := hE _ (.tail _ (.tail _ (.head _)))
      have hcn : (c 1, LC.cell (some (.int n))) ∈ led := hE _ (.tail _ (.tail _ (.tail _ (.head _))))
      have hcf : (c 2, LC.cell (some (.obj f))) ∈ led := hE _ (.tail _ (.tail _ (.tail _ (.tail _ (.head _)))))
      walk_at "Y"
      refine two_dec (fun z => ?_) (fun z => ?_)
      · have ec : cnt = 1 := (one_more hR).1 z
        subst ec
        have hL : L < ds.length := Nat.lt_of_lt_of_le (hR ▸ Nat.lt_succ_self L) hRl
        have e1 : ds[L]? = some ds[L] := by simp [hL]
        walk_at "Y"
        refine E1.free (by walk_at "u") (by walk_at "u") (by walk_at "u") hcd ?_ (by walk_at "u") (by walk_at "u")
        walk_at "Y"
        refine ⟨⟨Int.natCast_nonneg _, ncl (Nat.le_trans (Nat.le_of_lt hL) hk20) (by decide)⟩, _, (by rw [Int.toNat_natCast]; exact mi_get e1), _, List.Sublist.refl _, rfl, ?_⟩
        rw [List.drop_eq_getElem_cons hL, List.take_succ_cons, List.take_zero, undig_cons, undig_nil, Int.mul_zero, Int.add_zero]
      · refine Exists.elim (half_mid ((one_more hR).2 h1 z) hR) fun j H => Exists.elim H fun i H => ?_
        have hj1 := H.1
        have hi1 := H.2.1
        have ecnt := H.2.2.1
        have em := H.2.2.2
        clear H
        subst ecnt
        have esh : (((L + j : Nat) : Int) - L) * n = ((n * j : Nat) : Int) := mid_shift
        have hR' : L + j + i ≤ ds.length := by rw [Nat.add_assoc, ← hR]; exact hRl
        have hLj : L + j ≤ ds.length := Nat.le_trans (Nat.le_add_right _ _) hR'
        have hspl : n * (j + i) = n * j + n * i := Nat.mul_add ..
        have hnc : n * (j + i) ≤ 2 ^ 20 := Nat.le_trans (Nat.mul_le_mul_left n (Nat.le_trans (Nat.le_add_left _ _) (hR ▸ hRl))) hnk
        have hsub : ∀ (a b : Nat), ∀ d ∈ (ds.drop a).take b, 0 ≤ d ∧ d < 2 ^ n := fun a b d hd => hds d (List.mem_of_mem_drop (List.mem_of_mem_take hd))
        have hb := undig_bound n _ (hsub (L + j) (i))
        have hlen : ((ds.drop (L + j)).take (i)).length = i := by rw [List.length_take, List.length_drop]; exact Nat.min_eq_left (Nat.le_sub_of_add_le (Nat.add_comm i _ ▸ hR'))
        rw [hlen] at hb
        walk_at "Y"
        refine BinQ.shrI ?_ (by decide)
        rw [em]
        walk_at "Y"
        refine E1.free (by walk_at "u") (by walk_at "u") (by walk_at "u") hcn ?_ (by walk_at "u") (by walk_at "u")
        refine BinQ.mulI ?_ (IntMulOk.of_right (Nat.le_trans (bits_le (m := 21) (Int.natCast_nonneg _) (ncl hn2 (by decide))) (by decide)))
        rw [esh]
        have hsb : (Builtin.Int.intBits (undig n ((ds.drop (L + j)).take (i))) : Int) + ((n * (j) : Nat) : Int) ≤ 2 ^ 27 := by
          exact sh_ok (bits_le hb.1 hb.2) hspl.symm hnc
        walk_at "Y"
        refine E1.free (by walk_at "u") (by walk_at "u") (by walk_at "u") hcf ?_ (by walk_at "u") (by walk_at "u")
        walk_at "Y"
        refine Cl.fn (ih i (Nat.lt_add_of_pos_left hj1) hi1 A' _ (fun e he => List.mem_cons_of_mem _ (hE e he)) (L + j) R (by rw [hR, Nat.add_assoc]) hRl (hA'.less (by rw [Nat.add_comm]; exact Nat.add_le_add_right hj1 i))) ?_
        walk_at "Y"
        refine BinQ.shlI ?_ ⟨Int.natCast_nonneg _, hsb⟩
        rw [Int.toNat_natCast]
        walk_at "Y"
        refine E1.free (by walk_at "u") (by walk_at "u") (by walk_at "u") hcf ?_ (by walk_at "u") (by walk_at "u")
        walk_at "Y"
        refine Cl.fn (ih j (Nat.lt_add_of_pos_right hi1) hj1 A' _ (fun e he => List.mem_cons_of_mem _ (hE e he)) L (L + j) rfl hLj (hA'.less (Nat.add_le_add_left hi1 j))) ?_
        walk_at "Y"
        refine ⟨_, List.Sublist.refl _, rfl, ?_⟩
        rw [undig_take_drop n ds L j i hR', Int.mul_comm (undig n _), Int.add_comm]
  simp only [List.cons_append, List.nil_append]
  refine Xs.cons (X1.ret (E1.ifexp (T1.lst ?_ (by walk_at "u"))))
  walk_at "Y"
  refine ⟨_, rfl, by rw [mi_len]; exact hk20, two_dec (fun z => ?_) (fun z => ?_)⟩
  · have hz : 1 ≤ ds.length := by
      cases ds with
      | nil => exact absurd rfl z
      | cons _ _ => simp
    walk_at "Y"
    refine f_lenL (by rw [mi_len]; exact hk20) ?_
    refine Es.ni ?_
    rw [mi_len]
    refine Cl.fn (v := .int (undig n ds)) ((inner ds.length hz A' _ ?_ 0 ds.length (by lia) (Nat.le_refl _) (hA'.less (by lia))).mono ?_) ?_
    · intro e he
      simp only [List.mem_cons, List.not_mem_nil, or_false] at he
      rcases he with rfl | rfl | rfl | rfl | rfl <;> simp [tabE]
    · rintro l v ⟨rfl, rfl⟩
      refine ⟨rfl, ?_⟩
      rw [List.drop_zero, List.take_length]
    · exact ⟨tabE (86 - 5) _ (some (c', oc)) ++ rest, .cons _ (.cons _ (.cons _ (.cons _ (List.Sublist.refl _)))), some (c', oc), hgd, rfl, rfl⟩
  · have hz : ds = [] := by
      cases ds with
      | nil => rfl
      | cons _ _ => simp [mi] at z
    subst hz
    walk_at "Y"
    exact ⟨tabE (86 - 5) _ (some (c', oc)) ++ rest, .cons _ (.cons _ (.cons _ (.cons _ (List.Sublist.refl _)))), some (c', oc), hgd, rfl, rfl⟩
end Mine

end

section
set_option maxRecDepth 100000
open PySem PySem.W PySem.Calls PyProof.Rows Yy
namespace Mine



noncomputable def D2 (w : World) (h₀ : Heap) (k : Nat) : Prop := ∀ (A : Around) (led : Led) (a b : Int) (n : Nat), Rm A (2 * k + 2) → n ≤ 4000 * 2 ^ k → n ≤ 2 ^ 20 → 1 ≤ n → 2 ^ (n - 1) ≤ b → b < 2 ^ n → 0 ≤ a → a < b * 2 ^ n →
  Cl pw w h₀ A led (.obj 65) [.int a, .int b, .int n] [] (fun l v => l = led ∧ v = .tup [.int (a / b), .int (a % b)])

set_option maxHeartbeats 4000000 in
theorem d3_spec {w : World} {h₀ : Heap} (C : Cx h₀ w.params) {k : Nat} (hD : D2 w h₀ k) {A : Around} (hA : Rm A (2 * k + 3)) {led : Led} {a12 a3 b b1 b2 : Int} {n : Nat} (hn : n ≤ 4000 * 2 ^ k) (hn2 : n ≤ 2 ^ 20) (hn1 : 1 ≤ n)
    (hb : b = b1 * 2 ^ n + b2) (hb2 : 0 ≤ b2 ∧ b2 < 2 ^ n) (hb1 : 2 ^ (n - 1) ≤ b1) (hb1' : b1 < 2 ^ n) (h0 : 0 ≤ a12) (ha3 : 0 ≤ a3 ∧ a3 < 2 ^ n) (hx : a12 * 2 ^ n + a3 < b * 2 ^ n) :
    Cl pw w h₀ A led (.obj 72) [.int a12, .int a3, .int b, .int b1, .int b2, .int n] [] (fun l v => l = led ∧ v = .tup [.int ((a12 * 2 ^ n + a3) / b), .int ((a12 * 2 ^ n + a3) % b)]) := by
  refine Cl.defC C.nol (.inl (C.inK _ _ (by walk_at "u"))) (codeOf C.inK (by walk_at "u")) hA (Binds.of_eq [S "a12", S "a3", S "b", S "b1", S "b2", S "n"] (all6 rfl fun x1 x2 x3 x4 x5 x6 => by walk_at "u")) (fun c L A' hA' => ⟨_, led, .loc (by walk_at "u") (.loc (by walk_at "u") (.loc (by walk_at "u") (.loc (by walk_at "u") (.loc (by walk_at "u") (.loc (by walk_at "u") .nil))))), ?_⟩)
  have hh := hA'.handled
  have hp := pow_pos2 n
  have hb1p : 0 < b1 := Int.lt_of_lt_of_le (pow_pos2 _) hb1
  have hf := d3_first hb hb2 hb1p h0 ha3 hx
  have hbits1 : Builtin.Int.intBits b1 ≤ n := bits_le (Int.le_of_lt hb1p) hb1'
  have sh1 : (Builtin.Int.intBits 1 : Int) + (n : Int) ≤ 2 ^ 27 := by
    exact Int.le_trans (Int.add_le_add (show (Builtin.Int.intBits 1 : Int) ≤ 1 by decide) (Int.ofNat_le.mpr hn2)) (by decide)
  have sh2 : (Builtin.Int.intBits b1 : Int) + (n : Int) ≤ 2 ^ 27 := Int.le_trans (Int.add_le_add (Int.ofNat_le.mpr (Nat.le_trans hbits1 hn2)) (Int.ofNat_le.mpr hn2)) (by decide)
  have e1 : (1 : Int) * 2 ^ n - 1 = 2 ^ n - 1 := by rw [Int.one_mul]
  -- the first guess
  refine Xs.cons (X1.cut [(S "q", .int (if a12 / 2 ^ n = b1 then 2 ^ n - 1 else a12 / b1)), (S "r", .int (if a12 / 2 ^ n = b1 then a12 - b1 * 2 ^ n + b1 else a12 % b1)), (S "a3", .int a3), (S "b", .int b), (S "b2", .int b2), (S "n", .int n)] led ?_ ?_)
  · refine X1.if ?_
    walk_at "Y"
    refine BinQ.shrI ?_ (Int.natCast_nonneg n)
    rw [Int.toNat_natCast, fdiv_pow]
    walk_at "Y"
    refine two_dec (fun z => ?_) (fun z => ?_)
    · refine Xs.cons (X1.swap hA'.handled (by walk_at "u") (by walk_at "u") (by walk_at "u") (E1.tup ?_ (by decide) (by walk_at "u")) (by walk_at "u") (by walk_at "u"))
      walk_at "Y"
      refine BinQ.shlI ?_ ⟨Int.natCast_nonneg n, sh1⟩
      rw [Int.toNat_natCast]
      walk_at "Y"
      rw [e1]
      walk_at "Y"
      refine BinQ.shlI ?_ ⟨Int.natCast_nonneg n, sh2⟩
      rw [Int.toNat_natCast]
      walk_at "Y"
      refine ⟨_, _, rfl, ?_⟩
      walk_at "Y"
      refine ⟨?_, rfl⟩
      rw [if_pos z, if_pos z]
      walk_at "has"
    · have hr := d3_rec hf z
      refine Xs.cons (X1.assignT ?_ (by walk_at "u") (by walk_at "u"))
      walk_at "Y"
      refine Cl.fn (hD A' _ a12 b1 n (hA'.less (Nat.le_refl _)) hn hn2 hn1 hb1 hb1' h0 hr) ?_
      refine As.tup hA'.handled ?_ rfl (by walk_at "u")
      refine As.loc (by walk_at "u") (by walk_at "u") (As.loc (by walk_at "u") (by walk_at "u") ?_)
      refine Xs.nil ⟨?_, rfl⟩
      rw [if_neg z, if_neg z]
      walk_at "has"
  have hqr : ∃ q r : Int, (if a12 / 2 ^ n = b1 then 2 ^ n - 1 else a12 / b1) = q ∧ (if a12 / 2 ^ n = b1 then a12 - b1 * 2 ^ n + b1 else a12 % b1) = r ∧ 0 ≤ r ∧ 0 ≤ q ∧ q < 2 ^ n ∧ ((r < b1 ∧ 0 ≤ q) ∨ q = 2 ^ n - 1) ∧ q * b1 + r = a12 ∧ r < 2 * 2 ^ n := by
    refine ⟨_, _, rfl, rfl, ?_⟩
    have d1 := Int.mul_ediv_add_emod a12 (2 ^ n)
    have d2 := Int.emod_nonneg a12 (Int.ne_of_gt hp)
    have d3 := Int.emod_lt_of_pos a12 hp
    by_cases z : a12 / 2 ^ n = b1
    · simp only [if_pos z]
      rw [z, Int.mul_comm] at d1
      have d4 : a12 - b1 * 2 ^ n = a12 % 2 ^ n := Int.sub_eq_iff_eq_add'.mpr d1.symm
      rw [d4]
      refine ⟨Int.add_nonneg d2 (Int.le_of_lt hb1p), Int.sub_nonneg_of_le hp, Int.sub_lt_self _ (by decide), .inr trivial, ?_, by rw [Int.two_mul]; exact Int.add_lt_add d3 hb1'⟩
      rw [Int.sub_mul, Int.one_mul, Int.mul_comm]; lia
    · simp only [if_neg z]
      have hr := d3_rec hf z
      have m0 := Int.emod_nonneg a12 (Int.ne_of_gt hb1p)
      have m1 := Int.emod_lt_of_pos a12 hb1p
      have m2 : 0 ≤ a12 / b1 := Int.ediv_nonneg h0 (Int.le_of_lt hb1p)
      refine ⟨m0, m2, ediv_lt_of hb1p hr, .inl ⟨m1, m2⟩, ?_, Int.lt_trans (Int.lt_trans m1 hb1') (by rw [Int.two_mul]; exact Int.lt_add_of_pos_right _ hp)⟩
      rw [Int.mul_comm]; exact Int.mul_ediv_add_emod a12 b1
  refine Exists.elim hqr fun q hq => Exists.elim hq fun r H => ?_
  have eq := H.1
  have er := H.2.1
  have r0 := H.2.2.1
  have q0 := H.2.2.2.1
  have q1 := H.2.2.2.2.1
  have hc := H.2.2.2.2.2.1
  have hqb := H.2.2.2.2.2.2.1
  have r1 := H.2.2.2.2.2.2.2
  clear H hq hqr
  rw [eq, er]
  clear eq er
  have hbel := (d3_below hb hb2 ha3 hx hc hqb).1
  have hsum := (d3_below hb hb2 ha3 hx hc hqb).2
  have sh3 : (Builtin.Int.intBits r : Int) + (n : Int) ≤ 2 ^ 27 := by
    have := bits_le (m := n + 1) r0 (by rw [pow_split, Int.mul_comm]; exact r1)
    exact Int.le_trans (Int.add_le_add (Int.ofNat_le.mpr (Nat.le_trans this (Nat.succ_le_succ hn2))) (Int.ofNat_le.mpr hn2)) (by decide)
  walk_at "Y"
  refine BinQ.shlI ?_ ⟨Int.natCast_nonneg n, sh3⟩
  rw [Int.toNat_natCast]
  walk_at "Y"
  rw [bOr_low r0 ha3.1 ha3.2]
  walk_at "Y"
  refine BinQ.mulI ?_ (IntMulOk.of_le (bits_le q0 q1) (bits_le hb2.1 hb2.2) (by lia))
  walk_at "Y"
  have hbp : 0 < b := by
    have : 1 * 2 ^ n ≤ b1 * 2 ^ n := Int.mul_le_mul_of_nonneg_right hb1p (Int.le_of_lt hp)
    rw [Int.one_mul] at this
    rw [hb]
    exact Int.lt_of_lt_of_le hp (Int.le_trans this (Int.le_add_of_nonneg_right hb2.1))
  refine X1.cut [(S "q", .int ((a12 * 2 ^ n + a3) / b)), (S "r", .int ((a12 * 2 ^ n + a3) % b))] led ?_ ?_
  · refine X1.whileS (σ := Int × Int) (fun s => [(S "q", .int s.1), (S "r", .int s.2), (S "b", .int b)]) (fun _ => led) (fun m s => m = (-s.2).toNat ∧ s.2 < b ∧ s.1 * b + s.2 = a12 * 2 ^ n + a3) (-(r * 2 ^ n + a3 - q * b2)).toNat (q, r * 2 ^ n + a3 - q * b2) ⟨rfl, hbel, hsum⟩ (by walk_at "has") rfl ?_
    rintro m ⟨x, y⟩ ⟨rfl, g1, g2⟩
    dsimp only at g1 g2
    walk_at "Y"
    refine two_dec (fun z => ?_) (fun z => ?_)
    · walk_at "Y"
      refine ⟨(-(y + b)).toNat, (x - 1, y + b), by simp; lia, ⟨rfl, by simp; lia, ?_⟩, by walk_at "has", rfl⟩
      show (x - 1) * b + (y + b) = _
      rw [Int.sub_mul, Int.one_mul]; lia
    · obtain ⟨u1, u2⟩ := dm_of (Int.not_lt.mp z) g1 g2
      rw [u1, u2]
      exact ⟨by walk_at "has", rfl⟩
  refine Xs.cons (X1.ret (E1.tup ?_ (by decide) (by walk_at "u")))
  walk_at "Y"
  exact ⟨led, List.Sublist.refl _, rfl, rfl⟩


theorem half_facts {a b : Int} {n p h : Nat} (hp : p = n % 2) (hh : n + p = h + h) (hn1 : 1 ≤ n) (hb1 : 2 ^ (n - 1) ≤ b) (hb2 : b < 2 ^ n) (ha : 0 ≤ a) (hx : a < b * 2 ^ n) :
    1 ≤ h ∧ 0 < b * 2 ^ p ∧ 2 ^ (h - 1) ≤ b * 2 ^ p / 2 ^ h ∧ b * 2 ^ p / 2 ^ h < 2 ^ h ∧ 0 ≤ a * 2 ^ p ∧ a * 2 ^ p < b * 2 ^ p * 2 ^ h * 2 ^ h := by
  have hbp : 0 < b := Int.lt_of_lt_of_le (pow_pos2 _) hb1
  have hpp := pow_pos2 p
  have hph := pow_pos2 h
  have h1 : 1 ≤ h := Nat.pos_of_ne_zero fun e => by rw [e] at hh; exact absurd (Nat.le_trans hn1 (Nat.le_trans (Nat.le_add_right n p) (Nat.le_of_eq hh))) (by decide)
  have e1 : (2 : Int) ^ (n - 1) * 2 ^ p = 2 ^ (h - 1) * 2 ^ h := by rw [← Int.pow_add, ← Int.pow_add, ← Nat.sub_add_comm hn1, hh, Nat.sub_add_comm h1]
  have e2 : (2 : Int) ^ n * 2 ^ p = 2 ^ h * 2 ^ h := by rw [← Int.pow_add, ← Int.pow_add]; congr 1
  have g1 : 2 ^ (h - 1) * 2 ^ h ≤ b * 2 ^ p := by rw [← e1]; exact Int.mul_le_mul_of_nonneg_right hb1 (Int.le_of_lt hpp)
  have g2 : b * 2 ^ p < 2 ^ h * 2 ^ h := by rw [← e2]; exact Int.mul_lt_mul_of_pos_right hb2 hpp
  refine ⟨h1, Int.mul_pos hbp hpp, (Int.le_ediv_iff_mul_le hph).mpr g1, ediv_lt_of hph g2, Int.mul_nonneg ha (Int.le_of_lt hpp), ?_⟩
  have g3 : a * 2 ^ p < b * 2 ^ n * 2 ^ p := Int.mul_lt_mul_of_pos_right hx hpp
  have g4 : b * 2 ^ n * 2 ^ p = b * (2 ^ h * 2 ^ h) := by rw [Int.mul_assoc, e2]
  have g5 : b * (2 ^ h * 2 ^ h) * 1 ≤ b * (2 ^ h * 2 ^ h) * 2 ^ p := Int.mul_le_mul_of_nonneg_left hpp (Int.mul_nonneg (Int.le_of_lt hbp) (Int.mul_nonneg (Int.le_of_lt hph) (Int.le_of_lt hph)))
  have g6 : b * 2 ^ p * 2 ^ h * 2 ^ h = b * (2 ^ h * 2 ^ h) * 2 ^ p := by
    rw [Int.mul_assoc, Int.mul_assoc, Int.mul_comm (2 ^ p), ← Int.mul_assoc b]
  rw [g6]
  rw [g4] at g3
  rw [Int.mul_one] at g5
  exact Int.lt_of_lt_of_le g3 g5

set_option maxHeartbeats 4000000 in
theorem d2_step {w : World} {h₀ : Heap} (C : Cx h₀ w.params) (k : Nat) (ihk : k = 0 ∨ ∃ j, k = j + 1 ∧ D2 w h₀ j) : D2 w h₀ k := by
  intro A led a b n hA hn hn2 hn1 hb1 hb2 ha hx
  have hbp : 0 < b := Int.lt_of_lt_of_le (pow_pos2 _) hb1
  refine Cl.defC C.nol (.inl (C.inK _ _ (by walk_at "u"))) (codeOf C.inK (by walk_at "u")) hA (Binds.of_eq [S "a", S "b", S "n"] (all3 rfl fun x1 x2 x3 => by walk_at "u")) (fun c L A' hA' => ⟨_, led, .loc (by walk_at "u") (.loc (by walk_at "u") (.loc (by walk_at "u") .nil)), ?_⟩)
  have hh := hA'.handled
  walk_at "Y"
  refine E1.meth meth_bits ?_ (by walk_at "u") (by walk_at "u") (by walk_at "u") (by decide)
  walk_at "Y"
  refine ⟨rfl, ?_⟩
  walk_at "Y"
  refine b_bits ⟨_, rfl, ?_⟩
  walk_at "Y"
  have hab : Builtin.Int.intBits a ≤ n + n := by
    refine bits_le ha (Int.lt_trans hx ?_)
    rw [Int.pow_add]
    exact Int.mul_lt_mul_of_pos_right hb2 (pow_pos2 n)
  refine two_dec (fun z => ?_) (fun z => ?_)
  · walk_at "Y"
    refine b_divmod (Int.ne_of_gt hbp) (noPylong_bits hn1 hb1 (Int.ofNat_le.mp (show (_ : Int) ≤ ((n + 4000 : Nat) : Int) from Int.le_add_of_sub_left_le z))) ⟨_, rfl, led, List.Sublist.refl _, rfl, ?_⟩
    rw [Int.fdiv_eq_ediv_of_nonneg _ (Int.le_of_lt hbp), fmod_pos (Int.le_of_lt hbp)]
  rcases ihk with rfl | ⟨j, rfl, ih⟩
  · exact absurd (Int.sub_left_le_of_le_add (show (_ : Int) ≤ ((n + 4000 : Nat) : Int) from Int.ofNat_le.mpr (Nat.le_trans hab (Nat.add_le_add_left hn n)))) z
  refine Exists.elim (⟨_, rfl⟩ : ∃ p, p = n % 2) fun p hp => Exists.elim (⟨(n + p) / 2, by lia⟩ : ∃ h, n + p = h + h) fun h hh2 => ?_
  have ep : Builtin.bitAnd (n : Int) 1 = (p : Nat) := by rw [bitAnd_m1, hp]; rfl
  have hp1 : p ≤ 1 := hp ▸ Nat.le_of_lt_succ (Nat.mod_lt n (by decide))
  have hhn : h ≤ n := Nat.le_of_not_lt fun q => absurd (Nat.add_lt_add q q) (Nat.not_lt.mpr (hh2 ▸ Nat.add_le_add_left (hp ▸ Nat.mod_le n 2) n))
  have hh20 : h ≤ 2 ^ 20 := Nat.le_trans hhn hn2
  have HF := half_facts hp hh2 hn1 hb1 hb2 ha hx
  have h1 := HF.1
  have b0 := HF.2.1
  have c1 := HF.2.2.1
  have c2 := HF.2.2.2.1
  have a0 := HF.2.2.2.2.1
  have ax := HF.2.2.2.2.2
  clear HF
  have dpad := dm_pad (a := a) p hbp
  have hA4 : Builtin.Int.intBits (a * 2 ^ p) ≤ 4 * h := by
    refine bits_le a0 (Int.lt_of_lt_of_le ax ?_)
    have e2 : b * 2 ^ p < 2 ^ (h + h) := by
      rw [← hh2, Int.pow_add]; exact Int.mul_lt_mul_of_pos_right hb2 (pow_pos2 p)
    have e3 : (2 : Int) ^ (4 * h) = 2 ^ (h + h) * 2 ^ h * 2 ^ h := by rw [← Int.pow_add, ← Int.pow_add, Nat.succ_mul 3, Nat.succ_mul 2, Nat.two_mul]
    rw [e3]
    have q := pow_pos2 h
    exact Int.le_of_lt (Int.mul_lt_mul_of_pos_right (Int.mul_lt_mul_of_pos_right e2 q) q)
  refine Xs.nil (Xs.cons (X1.assign (by walk_at "u") (by walk_at "u") ?_ (by walk_at "u")))
  refine E1.bin (E1.loc (by walk_at "u") (by walk_at "u") (by walk_at "u") (E1.int (BinQ.andI ?_)) (by walk_at "u"))
  refine Xs.cons (X1.cut [(S "a", .int (a * 2 ^ p)), (S "b", .int (b * 2 ^ p)), (S "n", .int ((h + h : Nat) : Int)), (S "pad", .int (p : Nat))] led ?_ ?_)
  · rw [ep]
    walk_at "Y"
    have i1 : Builtin.Int.intBits b ≤ n := bits_le (Int.le_of_lt hbp) hb2
    refine two_dec (fun z2 => ?_) (fun z2 => ?_)
    · have p1 : p = 1 := hp.trans ((Nat.mod_two_eq_zero_or_one n).resolve_left fun e => z2 (by rw [hp, e]; rfl))
      walk_at "Y"
      refine AugQ.shlI ?_ ⟨by decide, Int.le_trans (Int.add_le_add_right (Int.ofNat_le.mpr (Nat.le_trans hab (Nat.add_le_add hn2 hn2))) 1) (by decide)⟩
      walk_at "Y"
      refine AugQ.shlI ?_ ⟨by decide, Int.le_trans (Int.add_le_add_right (Int.ofNat_le.mpr (Nat.le_trans i1 hn2)) 1) (by decide)⟩
      walk_at "Y"
      refine ⟨?_, rfl⟩
      rw [show (n : Int) + 1 = ((h + h : Nat) : Int) from congrArg (fun x : Nat => (x : Int)) (p1 ▸ hh2 : n + 1 = h + h), p1]
      walk_at "has"
    · have p1 : p = 0 := Int.natCast_eq_zero.mp (Classical.not_not.mp z2)
      walk_at "Y"
      refine ⟨?_, rfl⟩
      have : n = h + h := by rw [p1] at hh2; exact hh2
      rw [p1, this, Int.pow_zero, Int.mul_one, Int.mul_one]
      walk_at "has"
  clear hab hx ha
  revert hA4
  revert dpad
  revert ax
  revert a0
  refine gen (a * 2 ^ p) fun a' => ?_
  intro a0 ax dpad hA4
  revert dpad
  revert ax
  revert c2
  revert c1
  revert b0
  refine genE (b * 2 ^ p) fun b' hb' => ?_
  intro b0 c1 c2 ax dpad
  have eh : ((h + h : Nat) : Int).fdiv (2 ^ Int.toNat 1) = (h : Nat) := by
    rw [Int.fdiv_eq_ediv_of_nonneg _ (by decide), show ((2 : Int) ^ Int.toNat 1) = 2 from rfl]; exact Int.ediv_eq_of_eq_mul_left (by decide) (by rw [Int.mul_comm, Int.two_mul]; rfl)
  have sh1 : (Builtin.Int.intBits 1 : Int) + (h : Int) ≤ 2 ^ 27 := Int.le_trans (Int.add_le_add (show (Builtin.Int.intBits 1 : Int) ≤ 1 by decide) (Int.ofNat_le.mpr hh20)) (by decide)
  walk_at "Y"
  refine BinQ.shrI ?_ (by decide)
  rw [eh]
  walk_at "Y"
  refine BinQ.shlI ?_ ⟨Int.natCast_nonneg h, sh1⟩
  rw [Int.toNat_natCast]
  walk_at "Y"
  refine X1.swap hA'.handled (by walk_at "u") (by walk_at "u") (by walk_at "u") (E1.tup ?_ (by decide) (by walk_at "u")) (by walk_at "u") (by walk_at "u")
  walk_at "Y"
  refine BinQ.shrI ?_ (Int.natCast_nonneg _)
  rw [Int.toNat_natCast, fdiv_pow]
  walk_at "Y"
  rw [bAnd_mask (Int.le_of_lt b0)]
  walk_at "Y"
  refine ⟨_, _, rfl, ?_⟩
  -- the high half
  have hph := pow_pos2 h
  have eb : b' = b' / 2 ^ h * 2 ^ h + b' % 2 ^ h := by rw [Int.mul_comm]; exact (Int.mul_ediv_add_emod b' (2 ^ h)).symm
  have mb : 0 ≤ b' % 2 ^ h ∧ b' % 2 ^ h < 2 ^ h := ⟨Int.emod_nonneg _ (Int.ne_of_gt hph), Int.emod_lt_of_pos _ hph⟩
  have ma : 0 ≤ a' % 2 ^ h ∧ a' % 2 ^ h < 2 ^ h := ⟨Int.emod_nonneg _ (Int.ne_of_gt hph), Int.emod_lt_of_pos _ hph⟩
  have mah : 0 ≤ a' / 2 ^ h % 2 ^ h ∧ a' / 2 ^ h % 2 ^ h < 2 ^ h := ⟨Int.emod_nonneg _ (Int.ne_of_gt hph), Int.emod_lt_of_pos _ hph⟩
  have ah0 : 0 ≤ a' / 2 ^ h := Int.ediv_nonneg a0 (Int.le_of_lt hph)
  have ehh : a' / 2 ^ (h + h) = a' / 2 ^ h / 2 ^ h := by rw [Int.pow_add, Int.ediv_ediv_of_nonneg (Int.le_of_lt hph)]
  have eX : a' / 2 ^ h / 2 ^ h * 2 ^ h + a' / 2 ^ h % 2 ^ h = a' / 2 ^ h := by rw [Int.mul_comm]; exact Int.mul_ediv_add_emod _ _
  have DJ := d2_join b0 ma a0 ax rfl
  have j1 := DJ.1
  have j2 := DJ.2.1
  have j3 := DJ.2.2.1
  have j4 := DJ.2.2.2.1
  have j5 := DJ.2.2.2.2
  clear DJ
  have hn4 : h ≤ 4000 * 2 ^ j := by
    have : 4000 * 2 ^ (j + 1) = 4000 * 2 ^ j + 4000 * 2 ^ j := by rw [Nat.pow_succ, ← Nat.mul_assoc, Nat.mul_two]
    rw [this] at hn
    refine Nat.le_of_not_lt fun q => absurd (Nat.le_trans (Nat.add_le_add q q) (hh2 ▸ Nat.add_le_add hn hp1)) ?_
    exact fun q' => Nat.not_succ_le_self _ (Nat.le_trans (Nat.le_of_eq (Nat.add_add_add_comm _ _ 1 1)) q')
  refine Xs.cons (X1.assignT ?_ (by walk_at "u") (by walk_at "u"))
  walk_at "Y"
  refine BinQ.shrI ?_ (Int.natCast_nonneg _)
  rw [Int.toNat_natCast, fdiv_pow, ehh]
  walk_at "Y"
  refine BinQ.shrI ?_ (Int.natCast_nonneg _)
  rw [Int.toNat_natCast, fdiv_pow]
  walk_at "Y"
  rw [bAnd_mask ah0]
  walk_at "Y"
  have k1 := fun (led : Led) => d3_spec C ih (A := A') (led := led) (a12 := a' / 2 ^ h / 2 ^ h) (a3 := a' / 2 ^ h % 2 ^ h) (hA'.less (Nat.le_refl _)) hn4 hh20 h1 eb mb c1 c2 (Int.ediv_nonneg ah0 (Int.le_of_lt hph)) mah (by rw [eX]; exact j1)
  simp only [eX] at k1
  refine Cl.fn (k1 _) ?_
  refine As.tup hA'.handled ?_ rfl (by walk_at "u")
  refine As.loc (by walk_at "u") (by walk_at "u") (As.loc (by walk_at "u") (by walk_at "u") ?_)
  -- the low half
  have hr0 : 0 ≤ a' / 2 ^ h % b' := Int.emod_nonneg _ (Int.ne_of_gt b0)
  refine Xs.cons (X1.assignT ?_ (by walk_at "u") (by walk_at "u"))
  walk_at "Y"
  rw [bAnd_mask a0]
  walk_at "Y"
  refine Cl.fn (d3_spec C ih (hA'.less (Nat.le_refl _)) hn4 hh20 h1 eb mb c1 c2 hr0 ma j2) ?_
  refine As.tup hA'.handled ?_ rfl (by walk_at "u")
  refine As.loc (by walk_at "u") (by walk_at "u") (As.loc (by walk_at "u") (by walk_at "u") ?_)
  refine Xs.cons (X1.cut [(S "q1", .int (a' / 2 ^ h / b')), (S "q2", .int ((a' / 2 ^ h % b' * 2 ^ h + a' % 2 ^ h) / b')), (S "r", .int (a % b)), (S "half_n", .int (h : Nat))] led ?_ ?_)
  · rw [← dpad.2, j5]
    refine X1.if ?_
    walk_at "Y"
    refine two_dec (fun z2 => ?_) (fun z2 => ?_)
    · have p1 : p = 1 := hp.trans ((Nat.mod_two_eq_zero_or_one n).resolve_left fun e => z2 (by rw [hp, e]; rfl))
      walk_at "Y"
      refine AugQ.shrI ?_ (by decide)
      rw [show (1 : Int).toNat = 1 from rfl, fdiv_pow]
      walk_at "Y"
      refine ⟨?_, rfl⟩
      rw [p1]
      walk_at "has"
    · have p1 : p = 0 := Int.natCast_eq_zero.mp (Classical.not_not.mp z2)
      walk_at "Y"
      refine ⟨?_, rfl⟩
      rw [p1, Int.pow_zero, Int.ediv_one]
      walk_at "has"
  have q10 : 0 ≤ a' / 2 ^ h / b' := Int.ediv_nonneg ah0 (Int.le_of_lt b0)
  have q11 : a' / 2 ^ h / b' < 2 ^ h := ediv_lt_of b0 j1
  have q20 : 0 ≤ (a' / 2 ^ h % b' * 2 ^ h + a' % 2 ^ h) / b' := Int.ediv_nonneg (Int.add_nonneg (Int.mul_nonneg hr0 (Int.le_of_lt hph)) ma.1) (Int.le_of_lt b0)
  have sh4 : (Builtin.Int.intBits (a' / 2 ^ h / b') : Int) + (h : Int) ≤ 2 ^ 27 := by
    exact Int.le_trans (Int.add_le_add (Int.ofNat_le.mpr (Nat.le_trans (bits_le q10 q11) hh20)) (Int.ofNat_le.mpr hh20)) (by decide)
  refine Xs.cons (X1.ret (E1.tup ?_ (by decide) (by walk_at "u")))
  walk_at "Y"
  refine BinQ.shlI ?_ ⟨Int.natCast_nonneg h, sh4⟩
  rw [Int.toNat_natCast]
  walk_at "Y"
  rw [bOr_low q10 q20 j3]
  walk_at "Y"
  refine ⟨led, List.Sublist.refl _, rfl, ?_⟩
  rw [← j4, ← dpad.1]

theorem d2_spec {w : World} {h₀ : Heap} (C : Cx h₀ w.params) : ∀ k, D2 w h₀ k
  | 0 => d2_step C 0 (.inl rfl)
  | k + 1 => d2_step C (k + 1) (.inr ⟨k, rfl, d2_spec C k⟩)
end Mine

end

section
set_option maxRecDepth 100000
open PySem PySem.W PySem.Calls PyProof.Rows Yy
namespace Mine



/-- the two tables of inner codes, in any of their states -/
structure DigOk (w : World) (h₀ : Heap) (T : Led → Prop) : Prop where
  init : T [(79 - 5, .prd (· = tabObj #[])), (86 - 5, .prd (· = tabObj #[]))]
  i2d : ∀ (A : Around) (pre t : Led) (a : Int) (n k : Nat), T t → 1 ≤ n → n ≤ 2 ^ 20 → 0 ≤ a → k = (Builtin.Int.intBits a + n - 1) / n → n * k ≤ 2 ^ 20 → Rm A (k + 4) →
    Cl pw w h₀ A (pre ++ t) (.obj 79) [.int a, .int n] [] (fun l v => ∃ t', T t' ∧ l = pre ++ t' ∧ v = .lst (mi (digs n k a)))
  d2i : ∀ (A : Around) (pre t : Led) (ds : List Int) (n : Nat), T t → 1 ≤ n → n ≤ 2 ^ 20 → n * ds.length ≤ 2 ^ 20 → (∀ d ∈ ds, 0 ≤ d ∧ d < 2 ^ n) → Rm A (ds.length + 4) →
    Cl pw w h₀ A (pre ++ t) (.obj 86) [.lst (mi ds), .int n] [] (fun l v => ∃ t', T t' ∧ l = pre ++ t' ∧ v = .int (undig n ds))
  fin : ∀ t, T t → ∃ ps1 ps2 : Array Value, (79 - 5, LC.prd (· = tabObj ps1)) ∈ t ∧ (86 - 5, LC.prd (· = tabObj ps2)) ∈ t

theorem tabE_mem (P : Addr) (pos : Pos) : ∀ st : TabSt, ∃ ps : Array Value, (P, LC.prd (· = tabObj ps)) ∈ tabE P pos st
  | Option.none => ⟨_, .head _⟩
  | some (_, _) => ⟨_, .head _⟩
theorem fnI {w : World} {h₀ : Heap} (C : Cx h₀ w.params) {led : Led} : IsFn h₀ led (.obj 79) := .inl ⟨_, _, _, _, C.inK _ _ (by walk_at "u")⟩
theorem fnD {w : World} {h₀ : Heap} (C : Cx h₀ w.params) {led : Led} : IsFn h₀ led (.obj 86) := .inl ⟨_, _, _, _, C.inK _ _ (by walk_at "u")⟩

theorem perm3 (a b c : Led) : (a ++ (b ++ c)).Perm (b ++ (a ++ c)) := by
  rw [← List.append_assoc, ← List.append_assoc]; exact List.perm_append_comm.append_right c
theorem perm3' (a b c : Led) : (a ++ (b ++ c)).Perm (c ++ (a ++ b)) := by
  rw [← List.append_assoc]; exact List.perm_append_comm

theorem dig_ok {w : World} {h₀ : Heap} (C : Cx h₀ w.params) (M1 : MkOk h₀ (79 - 1) (79 - 5)) (M2 : MkOk h₀ (86 - 1) (86 - 5)) : ∃ T, DigOk w h₀ T := by
  obtain ⟨p1, h1⟩ := i2d_core C M1
  obtain ⟨p2, h2⟩ := d2i_core C M2
  refine ⟨fun t => ∃ s1 s2, TabGood (S "_int2digits.<locals>.inner") s1 ∧ TabGood (S "_digits2int.<locals>.inner") s2 ∧ t = tabE (79 - 5) p1 s1 ++ tabE (86 - 5) p2 s2, ⟨Option.none, Option.none, trivial, trivial, rfl⟩, ?_, ?_, ?_⟩
  · rintro A pre t a n k ⟨s1, s2, g1, g2, rfl⟩ hn hn2 ha hk hnk hA
    refine Cl.perm (perm3 _ _ _) (Cl.permPost ((h1 g1 hn hn2 ha hk hnk hA).mono ?_)) (fnI C)
    rintro l v ⟨s1', g1', rfl, rfl⟩
    exact ⟨_, perm3 _ _ _, _, ⟨s1', s2, g1', g2, rfl⟩, rfl, rfl⟩
  · rintro A pre t ds n ⟨s1, s2, g1, g2, rfl⟩ hn hn2 hnk hds hA
    refine Cl.perm (perm3' _ _ _) (Cl.permPost ((h2 g2 hn hn2 hnk hds hA).mono ?_)) (fnD C)
    rintro l v ⟨s2', g2', rfl, rfl⟩
    exact ⟨_, (perm3' _ _ _).symm, _, ⟨s1, s2', g1, g2', rfl⟩, rfl, rfl⟩
  · rintro t ⟨s1, s2, -, -, rfl⟩
    obtain ⟨ps1, m1⟩ := tabE_mem (79 - 5) p1 s1
    obtain ⟨ps2, m2⟩ := tabE_mem (86 - 5) p2 s2
    exact ⟨ps1, ps2, List.mem_append_left _ m1, List.mem_append_right _ m2⟩

set_option maxHeartbeats 4000000 in
theorem dmp_spec {w : World} {h₀ : Heap} (C : Cx h₀ w.params) {T : Led → Prop} (D : DigOk w h₀ T) {A : Around} {pre t : Led} {a b : Int} (hT : T t) (ha : 0 ≤ a) (hb : 0 < b) (hz : Builtin.Int.intBits a + Builtin.Int.intBits b ≤ 2 ^ 20)
    (hk : (Builtin.Int.intBits a + Builtin.Int.intBits b - 1) / Builtin.Int.intBits b ≤ 400) (hA : Rm A 500) :
    Cl pw w h₀ A (pre ++ t) (.obj 93) [.int a, .int b] [] (fun l v => ∃ t', T t' ∧ l = pre ++ t' ∧ v = .tup [.int (a / b), .int (a % b)]) := by
  refine Cl.defC C.nol (.inl (C.inK _ _ (by walk_at "u"))) (codeOf C.inK (by walk_at "u")) hA (Binds.of_eq [S "a", S "b"] (all2 rfl fun x1 x2 => by walk_at "u")) (fun c L A' hA' => ⟨_, pre ++ t, .loc (by walk_at "u") (.loc (by walk_at "u") .nil), ?_⟩)
  have hh := hA'.handled
  have sz : sizeLine = 2 ^ 24 := rfl
  obtain ⟨n, hn⟩ : ∃ n, n = Builtin.Int.intBits b := ⟨_, rfl⟩
  obtain ⟨k, hk'⟩ : ∃ k, k = (Builtin.Int.intBits a + n - 1) / n := ⟨_, rfl⟩
  rw [← hn] at hz hk
  rw [← hk'] at hk
  have hb' := Int.le_of_lt hb
  have hn1 : 1 ≤ n := hn ▸ bits_pos hb
  have hbn : b < 2 ^ n := bits_lt hb' (Nat.le_of_eq hn.symm)
  have hbn1 : 2 ^ (n - 1) ≤ b := Int.not_lt.mp fun q => absurd (bits_le hb' q) (Nat.not_le.mpr (by rw [← hn]; exact Nat.sub_lt hn1 Nat.zero_lt_one))
  have hnk : n * k ≤ 2 ^ 20 := hk' ▸ Nat.le_trans (Nat.mul_div_le _ n) (Nat.le_trans (Nat.sub_le _ _) hz)
  have hax : a < 2 ^ (n * k) := bits_lt ha (hk' ▸ ceil_ge hn1)
  have hn20 : n ≤ 2 ^ 20 := Nat.le_trans (Nat.le_add_left _ _) hz
  walk_at "Y"
  refine E1.meth meth_bits ?_ (by walk_at "u") (by walk_at "u") (by walk_at "u") (by decide)
  walk_at "Y"
  refine ⟨rfl, ?_⟩
  walk_at "Y"
  refine b_bits ⟨_, rfl, ?_⟩
  rw [← hn]
  walk_at "Y"
  refine Cl.onT (D.i2d A' (_ :: pre) t a n k hT hn1 hn20 ha hk' hnk (hA'.less (by lia))) fun t1 hT1 => ?_
  refine ⟨pre ++ t1, rfl, ?_⟩
  walk_at "Y"
  refine E1.list (Es.ni (NewL.own (fun R => ?_))) (by walk_at "u")
  refine Xs.cons ?_
  -- the digits, the highest first
  refine X1.for (It1.rev hh (E1.blt (Cx.gd ‹Cx _ _›) (by walk_at "u") (by walk_at "u") (by walk_at "u") (by walk_at "u") (by walk_at "u") ?_ (by walk_at "u")) (by walk_at "u")) (by intro _; walk_at "u")
  refine ⟨rfl, ?_⟩
  walk_at "Y"
  refine ⟨_, rfl, ?_⟩
  have hrev : (mi (digs n k a)).reverse = mi (digs n k a).reverse := by simp [mi]
  rw [hrev]
  have hlen : (digs n k a).reverse.length = k := by simp [digs_len]
  have hdb : ∀ d ∈ (digs n k a).reverse, 0 ≤ d ∧ d < 2 ^ n := fun d hd => digs_bound n k a d (by simpa using hd)
  have hval : undig n (digs n k a) = a := by rw [undig_digs]; exact Int.emod_eq_of_lt ha hax
  have hval' : undig n ((digs n k a).reverse).reverse = a := by rw [List.reverse_reverse]; exact hval
  revert hval'
  revert hdb
  revert hlen
  refine gen ((digs n k a).reverse) fun ds => ?_
  intro hlen hdb hval'
  refine ForR.st (σ := List Int × Int) (fun _ s => [(S "r", .int s.2), (S "b", .int b), (S "n", .int (n : Nat)), (S "q_digits", .obj R)]) (fun _ s => (R, .list (mi s.1)) :: (pre ++ t1))
    (fun i s => s.1.length = i ∧ 0 ≤ s.2 ∧ s.2 < b ∧ (∀ d ∈ s.1, 0 ≤ d ∧ d < 2 ^ n) ∧ undig n (ds.take i).reverse = undig n s.1.reverse * b + s.2) ([], 0) ⟨rfl, by simp, hb, by simp, by simp [undig_nil]⟩ (by walk_at "has") rfl ?_ ?_
  · rintro i y ⟨qs, r⟩ hy hP
    have g1 := hP.1
    have g2 := hP.2.1
    have g3 := hP.2.2.1
    have g4 := hP.2.2.2.1
    have g5 := hP.2.2.2.2
    clear hP
    dsimp only at g1 g2 g3 g4 g5
    have hi : i < ds.length := by have := (List.getElem?_eq_some_iff.mp hy).1; simpa [mi] using this
    have ey : y = .int ds[i] := by
      have := mi_get (ns := ds) (i := i) (n := ds[i]) (by simp [hi])
      rw [this] at hy; exact (Option.some.inj hy).symm
    refine As.eq ey ?_
    have d0 := (hdb _ (List.getElem_mem hi)).1
    have d1 := (hdb _ (List.getElem_mem hi)).2
    have etake : (ds.take (i + 1)).reverse = ds[i] :: (ds.take i).reverse := by
      rw [List.take_succ_eq_append_getElem hi, List.reverse_append]; rfl
    revert etake
    revert d1
    revert d0
    refine gen (ds[i]) fun d => ?_
    intro d0 d1 etake
    have hp := pow_pos2 n
    have x0 : 0 ≤ r * 2 ^ n + d := Int.add_nonneg (Int.mul_nonneg g2 (Int.le_of_lt hp)) d0
    have x1 : r * 2 ^ n + d < b * 2 ^ n := by
      have : (r + 1) * 2 ^ n ≤ b * 2 ^ n := Int.mul_le_mul_of_nonneg_right g3 (Int.le_of_lt hp)
      rw [Int.add_mul, Int.one_mul] at this
      exact Int.lt_of_lt_of_le (Int.add_lt_add_left d1 _) this
    have sh : (Builtin.Int.intBits r : Int) + (n : Int) ≤ 2 ^ 27 := by
      have := bits_le g2 (Int.lt_trans g3 hbn); lia
    refine As.loc (by walk_at "u") (by walk_at "u") ?_
    refine Xs.cons (X1.assignT ?_ (by walk_at "u") (by walk_at "u"))
    walk_at "Y"
    refine BinQ.shlI ?_ ⟨Int.natCast_nonneg _, sh⟩
    rw [Int.toNat_natCast]
    walk_at "Y"
    refine Cl.fn (d2_spec C 9 A' _ _ b n (hA'.less (by decide)) (Nat.le_trans hn20 (by decide)) hn20 hn1 hbn1 hbn x0 x1) ?_
    refine As.tup hA'.handled ?_ rfl (by walk_at "u")
    refine As.loc (by walk_at "u") (by walk_at "u") (As.loc (by walk_at "u") (by walk_at "u") ?_)
    refine Xs.cons (X1.expr (E1.meth meth_append ?_ (by walk_at "u") (by walk_at "u") (by walk_at "u") (by decide)) (by walk_at "u") (by walk_at "u"))
    walk_at "Y"
    refine ⟨.inl ⟨_, memT memH, rfl⟩, ?_⟩
    walk_at "Y"
    have hqz : (mi qs).length ≤ sizeLine := by rw [mi_len, g1]; lia
    refine b_append (.tail .head) hqz ⟨_, rfl, rfl, ?_⟩
    rw [show mi qs ++ [MV.int ((r * 2 ^ n + d) / b)] = mi (qs ++ [(r * 2 ^ n + d) / b]) by simp [mi]]
    walk_at "Y"
    have m0 := Int.emod_nonneg (r * 2 ^ n + d) (Int.ne_of_gt hb)
    have m1 := Int.emod_lt_of_pos (r * 2 ^ n + d) hb
    have m2 : 0 ≤ (r * 2 ^ n + d) / b := Int.ediv_nonneg x0 (Int.le_of_lt hb)
    have m3 := ediv_lt_of hb x1
    refine ⟨(qs ++ [(r * 2 ^ n + d) / b], (r * 2 ^ n + d) % b), ⟨by simp [g1], m0, m1, ?_, ?_⟩, by walk_at "has", rfl⟩
    · intro e he
      rcases List.mem_append.mp he with he | he
      · exact g4 e he
      · rw [List.mem_singleton.mp he]; exact ⟨m2, m3⟩
    · dsimp only
      rw [etake, undig_cons, g5, List.reverse_append, List.reverse_singleton, List.singleton_append, undig_cons]
      have e1 := Int.mul_ediv_add_emod (r * 2 ^ n + d) b
      have e2 : ((r * 2 ^ n + d) / b + 2 ^ n * undig n qs.reverse) * b = b * ((r * 2 ^ n + d) / b) + 2 ^ n * (undig n qs.reverse * b) := by
        rw [Int.add_mul, Int.mul_comm _ b, Int.mul_assoc]
      rw [e2, Int.mul_add, Int.mul_comm (2 ^ n) r, Int.add_right_comm (b * _), e1, Int.add_left_comm, Int.add_comm d, Int.add_comm]
  · rintro m' ⟨qs, r⟩ hP hm
    have g1 := hP.1
    have g2 := hP.2.1
    have g3 := hP.2.2.1
    have g4 := hP.2.2.2.1
    have g5 := hP.2.2.2.2
    clear hP
    dsimp only at g1 g2 g3 g4 g5
    rw [mi_len] at g1 g5
    rw [List.take_length, hval'] at g5
    have u1 := (dm_of g2 g3 g5.symm).1
    have u2 := (dm_of g2 g3 g5.symm).2
    have hqz : (mi qs).length ≤ sizeLine := by rw [mi_len, g1]; lia
    refine Xs.has hm ?_
    refine Xs.cons (X1.expr (E1.meth meth_reverse ?_ (by walk_at "u") (by walk_at "u") (by walk_at "u") (by decide)) (by walk_at "u") (by walk_at "u"))
    walk_at "Y"
    refine ⟨.inl ⟨_, memT memH, rfl⟩, ?_⟩
    walk_at "Y"
    refine b_reverse (.tail .head) hqz ⟨_, rfl, rfl, ?_⟩
    rw [show (mi qs).reverse = mi qs.reverse by simp [mi]]
    refine Xs.cons (X1.assign (by walk_at "u") (by walk_at "u") (E1.call ?_ (by walk_at "u")) (by walk_at "u"))
    refine E1.glob (Cx.gd ‹Cx _ _›) (by walk_at "u") (by walk_at "u") (by walk_at "u") (by walk_at "u") ?_ (by walk_at "u")
    refine Es.co (E1.frz (E1.loc (by walk_at "u") (by walk_at "u") (by walk_at "u") ⟨R, _, _, rfl, .head, ?_⟩ (by walk_at "u")))
    walk_at "Y"
    have hql : qs.reverse.length = k := by simp [g1, hlen]
    refine Cl.onT (D.d2i A' (_ :: pre) t1 qs.reverse n hT1 hn1 hn20 (by rw [hql]; exact hnk) (fun d hd => g4 d (by simpa using hd)) (hA'.less (by rw [hql]; lia))) fun t2 hT2 => ?_
    refine ⟨pre ++ t2, rfl, ?_⟩
    refine Xs.cons (X1.ret (E1.tup ?_ (by decide) (by walk_at "u")))
    walk_at "Y"
    exact ⟨_, List.Sublist.refl _, t2, hT2, rfl, by rw [u1, u2]⟩

set_option maxHeartbeats 4000000 in
/-- int_divmod: a number not below nought, by one above nought -/
theorem idm_pp {w : World} {h₀ : Heap} (C : Cx h₀ w.params) {T : Led → Prop} (D : DigOk w h₀ T) {A : Around} {pre t : Led} {a b : Int} (hT : T t) (ha : 0 ≤ a) (hb : 0 < b) (hz : Builtin.Int.intBits a + Builtin.Int.intBits b ≤ 2 ^ 20)
    (hk : (Builtin.Int.intBits a + Builtin.Int.intBits b - 1) / Builtin.Int.intBits b ≤ 400) (hA : Rm A 501) :
    Cl pw w h₀ A (pre ++ t) (.obj 100) [.int a, .int b] [] (fun l v => ∃ t', T t' ∧ l = pre ++ t' ∧ v = .tup [.int (a / b), .int (a % b)]) := by
  refine Cl.defC C.nol (.inl (C.inK _ _ (by walk_at "u"))) (codeOf C.inK (by walk_at "u")) hA (Binds.of_eq [S "a", S "b"] (all2 rfl fun x1 x2 => by walk_at "u")) (fun c L A' hA' => ⟨_, pre ++ t, .loc (by walk_at "u") (.loc (by walk_at "u") .nil), ?_⟩)
  have hh := hA'.handled
  walk_at "Y"
  refine two_dec (fun z => absurd z (Int.ne_of_gt hb)) (fun _ => ?_)
  walk_at "Y"
  refine two_dec (fun z => absurd z (Int.not_lt.mpr (Int.le_of_lt hb))) (fun _ => ?_)
  walk_at "Y"
  refine two_dec (fun z => absurd z (Int.not_lt.mpr ha)) (fun _ => ?_)
  walk_at "Y"
  refine Cl.onT (dmp_spec C D (pre := _ :: pre) hT ha hb hz hk hA') fun t1 hT1 => ?_
  exact ⟨pre ++ t1, rfl, _, List.Sublist.refl _, t1, hT1, rfl, rfl⟩

set_option maxHeartbeats 4000000 in
/-- by one above nought -/
theorem idm_p {w : World} {h₀ : Heap} (C : Cx h₀ w.params) {T : Led → Prop} (D : DigOk w h₀ T) {A : Around} {pre t : Led} {a b : Int} (hT : T t) (hb : 0 < b) (hz : Builtin.Int.intBits a + Builtin.Int.intBits b ≤ 2 ^ 20)
    (hk : (Builtin.Int.intBits a + Builtin.Int.intBits b - 1) / Builtin.Int.intBits b ≤ 400) (hA : Rm A 502) :
    Cl pw w h₀ A (pre ++ t) (.obj 100) [.int a, .int b] [] (fun l v => ∃ t', T t' ∧ l = pre ++ t' ∧ v = .tup [.int (a / b), .int (a % b)]) := by
  rcases Int.lt_or_le a 0 with ha | ha
  · have hbits : Builtin.Int.intBits (-a - 1) ≤ Builtin.Int.intBits a := intBits_le_of_natAbs (pred_abs ha) (Nat.le_refl _)
    have hk2 : (Builtin.Int.intBits (-a - 1) + Builtin.Int.intBits b - 1) / Builtin.Int.intBits b ≤ 400 := Nat.le_trans (Nat.div_le_div_right (Nat.sub_le_sub_right (Nat.add_le_add_right hbits _) 1)) hk
    refine Cl.defC C.nol (.inl (C.inK _ _ (by walk_at "u"))) (codeOf C.inK (by walk_at "u")) hA (Binds.of_eq [S "a", S "b"] (all2 rfl fun x1 x2 => by walk_at "u")) (fun c L A' hA' => ⟨_, pre ++ t, .loc (by walk_at "u") (.loc (by walk_at "u") .nil), ?_⟩)
    have hh := hA'.handled
    walk_at "Y"
    refine two_dec (fun z => absurd z (Int.ne_of_gt hb)) (fun _ => ?_)
    walk_at "Y"
    refine two_dec (fun z => absurd z (Int.not_lt.mpr (Int.le_of_lt hb))) (fun _ => ?_)
    walk_at "Y"
    refine two_dec (fun _ => ?_) (fun z => absurd ha z)
    refine Xs.cons (X1.assignT ?_ (by walk_at "u") (by walk_at "u"))
    walk_at "Y"
    refine Cl.onT (idm_pp C D (pre := _ :: pre) hT (Int.le_sub_one_of_lt (Int.neg_pos_of_neg ha)) hb (Nat.le_trans (Nat.add_le_add_right hbits _) hz) hk2 hA') fun t1 hT1 => ?_
    refine ⟨pre ++ t1, rfl, ?_⟩
    refine As.tup hA'.handled ?_ rfl (by walk_at "u")
    refine As.loc (by walk_at "u") (by walk_at "u") (As.loc (by walk_at "u") (by walk_at "u") ?_)
    refine Xs.cons (X1.ret (E1.tup ?_ (by decide) (by walk_at "u")))
    walk_at "Y"
    have m0 := Int.emod_nonneg (-a - 1) (Int.ne_of_gt hb)
    have m1 := Int.emod_lt_of_pos (-a - 1) hb
    have e1 := Int.mul_ediv_add_emod (-a - 1) b
    obtain ⟨u1, u2⟩ := dm_of (a := a) (b := b) (q := -((-a - 1) / b) - 1) (r := b + (-((-a - 1) % b) - 1)) (neg_rest m0 m1).1 (neg_rest m0 m1).2 (by
      rw [Int.sub_mul, Int.one_mul, Int.neg_mul, Int.mul_comm]; exact neg_sum e1)
    refine ⟨_, List.Sublist.refl _, t1, hT1, rfl, ?_⟩
    rw [u1, u2]; rfl
  · exact idm_pp C D hT ha hb hz hk (hA.less (by decide))

set_option maxHeartbeats 4000000 in
/-- int_divmod, whole -/
theorem idm_spec {w : World} {h₀ : Heap} (C : Cx h₀ w.params) {T : Led → Prop} (D : DigOk w h₀ T) {A : Around} {pre t : Led} {a b : Int} (hT : T t) (hb : b ≠ 0) (hz : Builtin.Int.intBits a + Builtin.Int.intBits b ≤ 2 ^ 20)
    (hk : (Builtin.Int.intBits a + Builtin.Int.intBits b - 1) / Builtin.Int.intBits b ≤ 400) (hA : Rm A 503) :
    Cl pw w h₀ A (pre ++ t) (.obj 100) [.int a, .int b] [] (fun l v => ∃ t', T t' ∧ l = pre ++ t' ∧ v = .tup [.int (a.fdiv b), .int (a.fmod b)]) := by
  rcases Int.lt_or_le b 0 with hb0 | hb0
  · have hb0' : 0 < -b := Int.neg_pos_of_neg hb0
    refine Cl.defC C.nol (.inl (C.inK _ _ (by walk_at "u"))) (codeOf C.inK (by walk_at "u")) hA (Binds.of_eq [S "a", S "b"] (all2 rfl fun x1 x2 => by walk_at "u")) (fun c L A' hA' => ⟨_, pre ++ t, .loc (by walk_at "u") (.loc (by walk_at "u") .nil), ?_⟩)
    have hh := hA'.handled
    walk_at "Y"
    refine two_dec (fun z => absurd z hb) (fun _ => ?_)
    walk_at "Y"
    refine two_dec (fun _ => ?_) (fun z => absurd hb0 z)
    refine Xs.cons (X1.assignT ?_ (by walk_at "u") (by walk_at "u"))
    walk_at "Y"
    refine Cl.onT (idm_p C D (pre := _ :: pre) hT hb0' (by rw [bits_neg', bits_neg']; exact hz) (by rw [bits_neg', bits_neg']; exact hk) hA') fun t1 hT1 => ?_
    refine ⟨pre ++ t1, rfl, ?_⟩
    refine As.tup hA'.handled ?_ rfl (by walk_at "u")
    refine As.loc (by walk_at "u") (by walk_at "u") (As.loc (by walk_at "u") (by walk_at "u") ?_)
    refine Xs.cons (X1.ret (E1.tup ?_ (by decide) (by walk_at "u")))
    walk_at "Y"
    refine ⟨_, List.Sublist.refl _, t1, hT1, rfl, ?_⟩
    have e1 : a.fdiv b = -a / -b := by
      rw [← Int.neg_fdiv_neg, Int.fdiv_eq_ediv_of_nonneg _ (Int.le_of_lt hb0')]
    have e2 : a.fmod b = -(-a % -b) := by
      rw [Int.fmod_def, e1, Int.emod_def, Int.neg_mul, Int.sub_neg, Int.neg_add, Int.neg_neg, Int.sub_eq_add_neg]
    rw [e1, e2]
  · have hb' : 0 < b := Int.lt_iff_le_and_ne.mpr ⟨hb0, Ne.symm hb⟩
    refine Cl.onT (idm_p C D hT hb' hz hk (hA.less (by decide))) fun t1 hT1 => ?_
    exact ⟨t1, hT1, rfl, by rw [Int.fdiv_eq_ediv_of_nonneg _ hb0, fmod_pos hb0]⟩
end Mine

end

section
set_option maxRecDepth 100000
open PySem PySem.W PySem.Calls PyProof.Rows Yy
namespace Mine

/-- what is to be shown of the law: called with a list of numbers it ends and gives True back -/
noncomputable def LawStmt : Prop := ∀ {w : World} {h₀ : Heap} (C : Cx h₀ w.params) {T : Led → Prop} (D : DigOk w h₀ T) {A : Around} (hA : Rm A 520) {t : Led} (hT : T t) {ns : List Int} (hn : ns.length ≤ 63)
  {B : Fz} {a : Value} {s : Shared} {R : Result → Shared → Prop} (H : Hp h₀ B s.heap t) (ra : VR B a (.lst (mi ns)))
  (k : ∀ B' h' tk led' v, Le B B' → Hp h₀ B' h' led' → VP (fun l x => T l ∧ x = .bool true) B' led' v → R (.ok (.ret v)) { s with heap := h', toks := tk }),
  codeAny (model pw w) A (.call (.ref 174) ⟨[a], []⟩) R s

theorem vrs_of_ints {B : Fz} {vs : List Value} {ns : List Int} (h : IntsAre vs ns) : VRs B vs (mi ns) :=
  IntsAre.rec (motive := fun vs ns _ => VRs B vs (mi ns)) .nil (fun _ _ _ _ _ i => .cons .int i) h


/-- a value and its tree, checked -/
noncomputable def isRef (v : Value) (b : Addr) : Bool := match v with | .ref a => a == b | _ => false
noncomputable def isInt (v : Value) (k : Int) : Bool := match v with | .int n _ => n == k | _ => false
noncomputable def isStrV (v : Value) (t : Str) : Bool := match v with | .str s _ => s == t | _ => false
noncomputable def isBi (v : Value) (t : String) : Bool := match v with | .builtin s => s == t | _ => false
noncomputable def isTy (v : Value) (t : String) : Bool := match v with | .type s => s == t | _ => false
noncomputable def vm (v : Value) (y : MV) : Bool := match y with
  | .obj b => isRef v b
  | .int k => isInt v k
  | .str t => isStrV v t
  | .bi t => isBi v t
  | .ty t => isTy v t
  | _ => false
theorem vm_sound {v : Value} {y : MV} (h : vm v y = true) (B : Fz) : VR B v y := by
  cases y with
  | obj b =>
    cases v with
    | ref a => rw [eq_of_beq (show (a == b) = true from h)]; exact .obj
    | _ => exact nomatch (show false = true from h)
  | int k =>
    cases v with
    | int a t => rw [eq_of_beq (show (a == k) = true from h)]; exact .int
    | _ => exact nomatch (show false = true from h)
  | str k =>
    cases v with
    | str a t => rw [eq_of_beq (show (a == k) = true from h)]; exact .str
    | _ => exact nomatch (show false = true from h)
  | bi k =>
    cases v with
    | builtin a => rw [eq_of_beq (show (a == k) = true from h)]; exact .bi
    | _ => exact nomatch (show false = true from h)
  | ty k =>
    cases v with
    | type a => rw [eq_of_beq (show (a == k) = true from h)]; exact .ty
    | _ => exact nomatch (show false = true from h)
  | _ => exact nomatch (show false = true from h)
noncomputable def gchk1 (K : Frag) (p : Str × MV) : Bool := match nsIn K mainGlobals p.1 with | some (some v) => vm v p.2 | _ => false
noncomputable def gchk (K : Frag) (G : Vars) : Bool := G.all (gchk1 K)
theorem lookup_mem {G : Vars} {x : Str} {y : MV} (e : G.lookup x = some y) : (x, y) ∈ G := by
  induction G with
  | nil => cases e
  | cons p r ih =>
    rw [List.lookup_cons] at e
    by_cases hz : x = p.1
    · rw [hz, beq_self_eq_true] at e
      cases e
      exact hz ▸ .head _
    · rw [beq_eq_false_iff_ne.mpr hz] at e
      exact .tail _ (ih e)
theorem gchk_sound {K : Frag} {h : Heap} {mg : Str → Option Value} (X : K.In h) (N : h.Ns mainGlobals mg) {G : Vars} (hc : gchk K G = true) (x : Str) (y : MV) (e : G.lookup x = some y) : ∃ v, mg x = some v ∧ ∀ B, VR B v y := by
  have h1 : gchk1 K (x, y) = true := List.all_eq_true.mp hc _ (lookup_mem e)
  unfold gchk1 at h1
  cases q : nsIn K mainGlobals x with
  | none => rw [q] at h1; exact nomatch (show false = true from h1)
  | some u =>
    rw [q] at h1
    cases u with
    | none => exact nomatch (show false = true from h1)
    | some v => exact ⟨v, mg_of X N q, vm_sound h1⟩
noncomputable def bchk1 (K : Frag) (p : Str × MV) : Bool := (match nsIn K mainGlobals p.1 with | some none => true | _ => false) && (match bootBuiltins p.1 with | some v => vm v p.2 | _ => false) && (p.1 != "__name__")
noncomputable def bchk (K : Frag) (G : Vars) : Bool := G.all (bchk1 K)
theorem bchk_sound {K : Frag} {h : Heap} {mg mb : Str → Option Value} (X : K.In h) (N : h.Ns mainGlobals mg) (hb : ∀ x : Str, x ≠ "__name__" → mb x = bootBuiltins x) {G : Vars} (hc : bchk K G = true) (x : Str) (y : MV) (e : G.lookup x = some y) : mg x = none ∧ ∃ v, mb x = some v ∧ ∀ B, VR B v y := by
  have h0 : bchk1 K (x, y) = true := List.all_eq_true.mp hc _ (lookup_mem e)
  unfold bchk1 at h0
  rw [Bool.and_eq_true, Bool.and_eq_true] at h0
  obtain ⟨⟨h1, h2⟩, h3⟩ := h0
  cases q : nsIn K mainGlobals x with
  | none => rw [q] at h1; exact nomatch (show false = true from h1)
  | some u =>
    rw [q] at h1
    cases u with
    | some v => exact nomatch (show false = true from h1)
    | none =>
      cases q2 : bootBuiltins x with
      | none => rw [q2] at h2; exact nomatch (show false = true from h2)
      | some v =>
        rw [q2] at h2
        exact ⟨mg_none_of X N q, v, (hb x (bne_iff_ne.mp h3)).trans q2, vm_sound h2⟩

theorem hp_start {h₁ : Heap} {P Q : Addr} {tabs : List (Addr × Addr)} (hne : P ≠ Q) (hP : h₁.get? P = some (tabObj #[])) (hQ : h₁.get? Q = some (tabObj #[])) (mP : P ∈ tabs.map (·.2)) (mQ : Q ∈ tabs.map (·.2)) :
    Hp (ghostOf h₁ tabs) (ghostOf h₁ tabs).get? h₁ [(P, .prd (· = tabObj #[])), (Q, .prd (· = tabObj #[]))] where
  base := Le.refl _
  keep := fun b o e => of_hideAll _ e
  nodup := by
    rw [List.map_cons, List.map_cons, List.map_nil]
    exact List.nodup_cons.mpr ⟨fun h => hne (List.mem_singleton.mp h), List.nodup_cons.mpr ⟨List.not_mem_nil, List.nodup_nil⟩⟩
  own := fun p hp => by
    rcases List.mem_cons.mp hp with rfl | hp
    · exact ⟨hideAll_none _ mP, _, hP, rfl⟩
    · rw [List.mem_singleton.mp hp]
      exact ⟨hideAll_none _ mQ, _, hQ, rfl⟩

set_option maxHeartbeats 4000000 in
theorem top_of (law : LawStmt) : PySem.Challenge.rw_tv0045_02.Holds := hd (by
  k_fill
  intro w s₀ s₁ mg mb G Y fa o pm cd doc dV kV ho hd hcd hD hmg hg args vals as hpre hlay hrd hwl hlo
  have KX := km_in_of Y
  km_tabs Y
  have X := (Ground.X G).1
  have V := (Ground.X G).2
  refine Ground.open G ?_
  intro T B D TE TW
  try (refine guard_noD D (by decide +kernel) ?_; clear D)
  km_lay T hmg ho hd cd
  have hfa : mg (PySem.Str.ofString "law") = some (.ref 174) := mg_of KX T.g (by kernel_rfl)
  have e155 : fa = 174 := by
    have h2 : mg (PySem.Str.ofString "law") = some (.ref fa) := hmg
    rw [hfa] at h2; cases h2; rfl
  clear hd hcd hD hmg ho o pm cd doc dV kV
  wrow_args hpre hlay hrd hwl hlo
  all_goals (first | refine callC_kw (enter_call ?_) | refine enter_call ?_)
  w_top on
  kn_posts
  rename_i ns _ _ _ _ _ _ _ a vs _ hL _ W1 _ hI _ hlen _
  subst e155
  have X' := ghost_K hT9 KX (by kernel_rfl)
  have T' := ghost_top hT9 T
  have C' := ghost_code hT9
  have Cc : Cx (ghostOf s₁.heap [(86 - 1, 86 - 5), (79 - 1, 79 - 5)]) w.params := by
    refine cx_of X' T'.nolimit (topRead_of T') ?_ ?_
    · exact gchk_sound KX T.g (by kernel_rfl)
    · exact bchk_sound KX T.g T.builtins (by kernel_rfl)
  obtain ⟨TT, DD⟩ := dig_ok Cc ⟨C'.2.1, _, _, _, _, _, T'⟩ ⟨C'.1, _, _, _, _, _, T'⟩
  have H := hp_start (h₁ := s₁.heap) (P := 79 - 5) (Q := 86 - 5) (tabs := [(86 - 1, 86 - 5), (79 - 1, 79 - 5)]) (by decide) (hT9 (79 - 1, 79 - 5) (by simp)).2 (hT9 (86 - 1, 86 - 5) (by simp)).2 (by decide) (by decide)
  have ra : VR (ghostOf s₁.heap [(86 - 1, 86 - 5), (79 - 1, 79 - 5)]).get? (.ref a) (.lst (mi ns)) := by
    obtain ⟨ob, h1, h2, n, h3⟩ := hL
    have W2 := W1
    rw [ofPy] at W2
    cases W2 with
    | list hw _ =>
      rename_i vs'
      rw [hw] at h1; cases h1
      cases h3
      exact .lst (n := 0) (l := vs) (ghost_get hT9 hw (by intro q; cases q)) (vrs_of_ints hI)
  refine law Cc DD ⟨rfl, by decide, by decide⟩ DD.init (by omega) H ra ?_
  rintro B' h' tk led' v le H' ⟨x, rx, hT, rfl⟩
  cases rx
  obtain ⟨ps1, ps2, m1, m2⟩ := DD.fin _ hT
  refine ⟨⟨.inl ⟨.bool true, .bool true, [], rfl, ?_, .bool true, ?_, ?_⟩, ?_, rfl, hg⟩, ?_, ?_, trivial⟩
  · intro cls; rfl
  · refine postW_of (X := true) ?_ ?_ rfl
    · first | rfl | kernel_rfl | o_shape
    · first | rfl | kernel_rfl | wtm_val
  · exact fun _ => ⟨List.nodup_nil, fun a h => absurd h List.not_mem_nil⟩
  · exact fun b o e => H'.keep b o (H'.base b o e)
  · obtain ⟨_, ob, e, rfl⟩ := H'.own _ m2
    exact ⟨_, e⟩
  · obtain ⟨_, ob, e, rfl⟩ := H'.own _ m1
    exact ⟨_, e⟩)
end Mine

end

section
set_option maxRecDepth 100000
open PySem PySem.W PySem.Calls PyProof.Rows Yy
namespace Mine

/-! ### how long the numbers are -/
noncomputable def wdOf2 (tot : Int) : Nat := (5 + (tot.fdiv 3).fmod 40 + 900 * (if decide ((tot.fdiv 120).fmod 8 = 5) = true then 1 else 0)).toNat
theorem wd2_ok (tot : Int) : (5 : Int) + (tot.fdiv 3).fmod 40 + 900 * (if decide ((tot.fdiv 120).fmod 8 = 5) = true then 1 else 0) = ((wdOf2 tot : Nat) : Int) ∧ 5 ≤ wdOf2 tot ∧ wdOf2 tot ≤ 944 := by
  unfold wdOf2
  have h1 : (tot.fdiv 3).fmod 40 = (tot.fdiv 3) % 40 := Int.fmod_eq_emod_of_nonneg _ (by decide)
  have h2 := Int.emod_nonneg (tot.fdiv 3) (b := 40) (by decide)
  have h3 := Int.emod_lt_of_pos (tot.fdiv 3) (b := 40) (by decide)
  rw [h1]
  generalize tot.fdiv 3 % 40 = x at h2 h3 ⊢
  obtain ⟨k, rfl⟩ := Int.eq_ofNat_of_zero_le h2
  have hk : k ≤ 39 := Nat.le_of_lt_succ (Int.ofNat_lt.mp h3)
  split
  · exact ⟨rfl, Nat.le_trans (Nat.le_add_right 5 k) (Nat.le_add_right _ _), Nat.add_le_add_right (Nat.add_le_add_left hk 5) 900⟩
  · exact ⟨rfl, Nat.le_add_right 5 k, Nat.le_trans (Nat.add_le_add_left hk 5) (by decide)⟩
noncomputable def sgOf2 (tot : Int) : Int := 1 - 2 * (tot.fdiv 2).fmod 2
theorem sg2_ok (tot : Int) : sgOf2 tot = 1 ∨ sgOf2 tot = -1 := by
  unfold sgOf2
  have h1 : (tot.fdiv 2).fmod 2 = (tot.fdiv 2) % 2 := Int.fmod_eq_emod_of_nonneg _ (by decide)
  rw [h1]
  generalize tot.fdiv 2 = x
  lia
theorem abs_sg2 {s x : Int} (hs : s = 1 ∨ s = -1) : (s * x).natAbs = x.natAbs ∧ (-s * x).natAbs = x.natAbs := by
  rcases hs with rfl | rfl <;> constructor <;> simp
theorem bits_gt {x : Int} {n : Nat} (h : (2 : Int) ^ n ≤ x) : n < Builtin.Int.intBits x := by
  rcases Nat.lt_or_ge n (Builtin.Int.intBits x) with q | q
  · exact q
  · have h1 := PySem.intBits_le_iff.mp q
    have hc : ((2 ^ n : Nat) : Int) = 2 ^ n := by push_cast; rfl
    exact absurd (Int.lt_of_le_of_lt Int.le_natAbs (Int.ofNat_lt.mpr h1)) (Int.not_lt.mpr (by rw [hc]; exact h))
theorem bits_abs {x y : Int} (h : x.natAbs = y.natAbs) : Builtin.Int.intBits x = Builtin.Int.intBits y :=
  Nat.le_antisymm (PySem.intBits_le_of_natAbs (Nat.le_of_eq h) (Nat.le_refl _)) (PySem.intBits_le_of_natAbs (Nat.le_of_eq h.symm) (Nat.le_refl _))
theorem div_small2 {a b n : Nat} (h1 : a ≤ 31 * n + 1 + b) (h2 : n < b) : (a + b - 1) / b ≤ 400 := by
  refine Nat.div_le_of_le_mul (Nat.le_trans (Nat.sub_le _ _) (Nat.le_trans (Nat.add_le_add_right h1 b) ?_))
  have h3 : 31 * n + 1 ≤ 31 * b := Nat.le_trans (Nat.add_le_add_left (by decide : 1 ≤ 31) (31 * n)) (by rw [← Nat.mul_succ]; exact Nat.mul_le_mul_left 31 h2)
  exact Nat.le_trans (Nat.add_le_add_right (Nat.add_le_add_right h3 b) b) (by rw [← Nat.succ_mul, ← Nat.succ_mul, Nat.mul_comm]; exact Nat.mul_le_mul_left b (by decide))
theorem ex_max : ∀ {l : List Nat}, l ≠ [] → ∃ M ∈ l, ∀ k ∈ l, k ≤ M := by
  intro l
  induction l with
  | nil => intro h; exact absurd rfl h
  | cons x l ih =>
    intro _
    by_cases e : l = []
    · subst e
      exact ⟨x, List.mem_cons_self, fun k hk => by rw [List.mem_singleton.mp hk]; exact Nat.le_refl _⟩
    · obtain ⟨M, h1, h2⟩ := ih e
      rcases Nat.le_total x M with q | q
      · exact ⟨M, List.mem_cons_of_mem _ h1, fun k hk => (List.mem_cons.mp hk).elim (fun e => e ▸ q) (h2 k)⟩
      · exact ⟨x, List.mem_cons_self, fun k hk => (List.mem_cons.mp hk).elim (fun e => e ▸ Nat.le_refl _) fun w => Nat.le_trans (h2 k w) q⟩
noncomputable def powM (X : Nat → Int) : List (List Int) := [[1, X 0, X 1, X 3], [X 0, 1, X 2, X 4], [X 1, X 2, 1, X 5], [X 3, X 4, X 5, 1]]
noncomputable def pw1 (n : Nat) (y : Int) : Int := 2 ^ ((n : Int) * y).toNat
theorem pw1_t (n k : Nat) : pw1 n (k : Int) = 2 ^ (n * k) := by
  unfold pw1
  rw [← Int.natCast_mul, Int.toNat_natCast]
theorem pwM_eq (n : Nat) (t : Nat → Nat) : (sqM fun i => ((t i : Nat) : Int)).map (List.map (pw1 n)) = powM (xp n t) := by
  have h0 : pw1 n 0 = 1 := by
    have := pw1_t n 0
    rw [Nat.mul_zero] at this
    exact this
  unfold sqM powM xp
  simp only [List.map_cons, List.map_nil, h0, pw1_t]
/-- what is known of the numbers -/
structure NumF (n : Nat) (P W : Int) (X : Nat → Int) : Prop where
  whole : (P * (X 1 + X 2 + X 5) - X 2 ^ 2) * (P * (X 3 + X 4 + X 5) - X 4 ^ 2) - (P * X 5 + X 2 * X 4) ^ 2 = W * P
  piv : X 0 + X 2 + X 4 = P
  pos : 0 < P
  nn : 0 ≤ W
  bX : ∀ i, Builtin.Int.intBits (X i) ≤ 9441
  bW : Builtin.Int.intBits W ≤ 2 ^ 15
  rel : ∃ n', Builtin.Int.intBits (W + 1) ≤ 31 * n' + 1 ∧ n' < Builtin.Int.intBits P
theorem netsN_le {t : Nat → Nat} (ht : ∀ i, t i ≤ 10) : ∀ k ∈ netsN t, k ≤ 30 := by
  intro k hk
  obtain ⟨s, _, rfl⟩ := List.mem_map.mp hk
  exact Nat.add_le_add (Nat.add_le_add (ht _) (ht _)) (ht _)
theorem num_ok {n : Nat} {t : Nat → Nat} (h5 : 5 ≤ n) (h944 : n ≤ 944) (ht : ∀ i, t i ≤ 10) (hz : t 0 = 0 → t 2 = 0 → t 4 = 0 → ∀ i < 6, t i = 0) : NumF n (pivW n t) (netW n t) (xp n t) := by
  obtain ⟨M, hM, hle⟩ := ex_max (l := netsN t) (by unfold netsN treesL; exact List.cons_ne_nil _ _)
  obtain ⟨g1, g2, _⟩ := net_digs h5 hM hle
  have hM30 := netsN_le ht M hM
  have hn0 : 0 < n := Nat.lt_of_lt_of_le (by decide) h5
  have bW : Builtin.Int.intBits (netW n t) ≤ 31 * n := by
    have h1 : (Builtin.Int.intBits (netW n t) + n - 1) / n < 32 := by rw [g2]; exact Nat.lt_of_le_of_lt (Nat.succ_le_succ hM30) (by decide)
    refine Nat.le_of_not_lt fun q => absurd ((Nat.div_lt_iff_lt_mul hn0).mp h1) (Nat.not_lt.mpr (Nat.le_sub_of_add_le ?_))
    rw [Nat.succ_mul 31 n, Nat.add_right_comm]
    exact Nat.add_le_add_right q n
  refine ⟨whole_eq n t, rfl, piv_pos n t, g1, fun i => ?_, Nat.le_trans bW (Nat.le_trans (Nat.mul_le_mul_left 31 h944) (by decide)), ?_⟩
  · refine bits_le (Int.le_of_lt (xp_pos n t i)) ?_
    unfold xp
    have h1 : n * t i ≤ 9440 := Nat.le_trans (Nat.mul_le_mul h944 (ht i)) (by decide)
    exact Int.pow_lt_pow_of_lt (by decide) (Nat.lt_succ_of_le h1)
  · by_cases q : t 0 = 0 ∧ t 2 = 0 ∧ t 4 = 0
    · have z := hz q.1 q.2.1 q.2.2
      refine ⟨1, ?_, ?_⟩
      · have e : netW n t = 16 := by
          rw [netW_eq]
          have : ∀ i < 6, xp n t i = 1 := fun i hi => by unfold xp; rw [z i hi]; rfl
          unfold treesL
          simp only [List.map_cons, List.map_nil, this 0 (by decide), this 1 (by decide), this 2 (by decide), this 3 (by decide), this 4 (by decide), this 5 (by decide)]
          rfl
        rw [e]
        decide
      · have e : pivW n t = 3 := by
          unfold pivW xp
          rw [q.1, q.2.1, q.2.2]; rfl
        rw [e]
        decide
    · refine ⟨n, ?_, ?_⟩
      · exact Nat.le_trans (PySem.intBits_add_le bW (show Builtin.Int.intBits 1 ≤ 1 by decide)) (Nat.succ_le_succ (Nat.max_le.mpr ⟨Nat.le_refl _, Nat.le_trans (by decide) (Nat.mul_le_mul_left 31 hn0)⟩))
      · refine bits_gt ?_
        have big : ∀ i, t i ≠ 0 → (2 : Int) ^ n ≤ xp n t i := fun i hi => by
          unfold xp
          exact_mod_cast Nat.pow_le_pow_right (show 0 < 2 by decide) (Nat.le_mul_of_pos_right n (Nat.pos_of_ne_zero hi))
        have p0 := xp_pos n t 0
        have p2 := xp_pos n t 2
        have p4 := xp_pos n t 4
        unfold pivW
        by_cases q0 : t 0 = 0
        · by_cases q2 : t 2 = 0
          · exact Int.le_trans (big 4 fun q4 => q ⟨q0, q2, q4⟩) (Int.le_add_of_nonneg_left (Int.le_of_lt (Int.add_pos p0 p2)))
          · exact Int.le_trans (Int.le_trans (big 2 q2) (Int.le_add_of_nonneg_left (Int.le_of_lt p0))) (Int.le_add_of_nonneg_right (Int.le_of_lt p4))
        · exact Int.le_trans (Int.le_trans (big 0 q0) (Int.le_add_of_nonneg_right (Int.le_of_lt p2))) (Int.le_add_of_nonneg_right (Int.le_of_lt p4))
/-- how long both numbers of a division are -/
theorem div_ok {n : Nat} {P W t s : Int} {X : Nat → Int} (N : NumF n P W X) (hs : s = 1 ∨ s = -1) (h0 : 0 ≤ t) (h1 : t < P) :
    (Builtin.Int.intBits P ≤ 9443 ∧ Builtin.Int.intBits (W * P + t) ≤ 2 ^ 16) ∧
    (Builtin.Int.intBits (s * (W * P + t)) + Builtin.Int.intBits (s * P) ≤ 2 ^ 20 ∧ (Builtin.Int.intBits (s * (W * P + t)) + Builtin.Int.intBits (s * P) - 1) / Builtin.Int.intBits (s * P) ≤ 400) ∧
    (Builtin.Int.intBits (-s * (W * P + t)) + Builtin.Int.intBits (s * P) ≤ 2 ^ 20 ∧ (Builtin.Int.intBits (-s * (W * P + t)) + Builtin.Int.intBits (s * P) - 1) / Builtin.Int.intBits (s * P) ≤ 400) := by
  have bP : Builtin.Int.intBits P ≤ 9443 := by
    rw [← N.piv]
    exact PySem.intBits_add_le (m := 9442) (n := 9441) (PySem.intBits_add_le (N.bX 0) (N.bX 2)) (N.bX 4)
  rw [bits_abs (abs_sg2 (x := W * P + t) hs).1, bits_abs (abs_sg2 (x := W * P + t) hs).2, bits_abs (abs_sg2 (x := P) hs).1]
  have hWP : 0 ≤ W * P := Int.mul_nonneg N.nn (Int.le_of_lt N.pos)
  have e : W * P + t ≤ (W + 1) * P := by rw [Int.add_mul, Int.one_mul]; exact Int.add_le_add_left (Int.le_of_lt h1) _
  obtain ⟨n', r1, r2⟩ := N.rel
  have b1 : Builtin.Int.intBits (W * P + t) ≤ 31 * n' + 1 + Builtin.Int.intBits P :=
    PySem.intBits_le_of_natAbs (abs_mono (Int.add_nonneg hWP h0) e) (PySem.intBits_mul_le r1 (Nat.le_refl _))
  have b2 : Builtin.Int.intBits (W * P + t) ≤ 2 ^ 16 := by
    refine PySem.intBits_le_of_natAbs (abs_mono (Int.add_nonneg hWP h0) e) (Nat.le_trans (PySem.intBits_mul_le (PySem.intBits_add_le N.bW (show Builtin.Int.intBits 1 ≤ 1 by decide)) bP) (by decide))
  have b3 : Builtin.Int.intBits (W * P + t) + Builtin.Int.intBits P ≤ 2 ^ 20 := Nat.le_trans (Nat.add_le_add b2 bP) (by decide)
  have b4 := div_small2 b1 r2
  exact ⟨⟨bP, b2⟩, ⟨b3, b4⟩, b3, b4⟩
end Mine

end

section
set_option maxRecDepth 100000
open PySem PySem.W PySem.Calls PyProof.Rows Yy
namespace Mine

/-! ### the lengths of the ties as numbers, and squares of four -/
theorem tt_nat {z : Nat} {cs : List Nat} {D' : Nat → Nat → Int} (hz : z < 2) (hcb : ∀ i, cs.getD i 0 < 120) (hD' : D' = fun h l => farC z (cs.getD h 0) (cs.getD l 0)) :
    ∃ tn : Nat → Nat, TT D' = (fun i => ((tn i : Nat) : Int)) ∧ (∀ i, tn i ≤ 10) ∧ (tn 0 = 0 → tn 2 = 0 → tn 4 = 0 → ∀ i < 6, tn i = 0) := by
  have hT : ∀ i, 0 ≤ TT D' i ∧ TT D' i ≤ 10 := fun i => by
    unfold TT
    rw [hD']
    exact (far_ok hz (hcb _) (hcb _)).2.2.1
  have e : TT D' = fun i => (((TT D' i).toNat : Nat) : Int) := funext fun i => (Int.toNat_of_nonneg (hT i).1).symm
  have ez : ∀ i, (TT D' i).toNat = 0 → TT D' i = 0 := fun i h => by rw [congrFun e i]; exact congrArg _ h
  refine ⟨fun i => (TT D' i).toNat, e, fun i => (Int.toNat_le).mpr (hT i).2, fun h0 h2 h4 i hi => ?_⟩
  have zr : ∀ h l, D' h l = 0 → rowS (cs.getD h 0) (z + 1) = rowS (cs.getD l 0) (z + 1) := fun h l q => by
    rw [hD'] at q
    exact (far_ok hz (hcb h) (hcb l)).2.2.2 q
  have r1 := zr 1 0 (ez 0 h0)
  have r2 := zr 2 1 (ez 2 h2)
  have r3 := zr 3 1 (ez 4 h4)
  have rr : ∀ h < 4, rowS (cs.getD h 0) (z + 1) = rowS (cs.getD 0 0) (z + 1) := fun h hh => by
    match h, hh with
    | 0, _ => rfl
    | 1, _ => exact r1
    | 2, _ => exact r2.trans r1
    | 3, _ => exact r3.trans r1
  have d0 : ∀ h < 4, ∀ l < 4, D' h l = far (rowS (cs.getD 0 0) (z + 1)) (rowS (cs.getD 0 0) (z + 1)) := fun h hh l hl => by
    rw [hD']
    show far (rowS _ _) (rowS _ _) = _
    rw [rr h hh, rr l hl]
  have : TT D' i = TT D' 0 := (d0 _ (hi_lt i hi) _ (lo_lt i hi)).trans (d0 1 (by decide) 0 (by decide)).symm
  show (TT D' i).toNat = 0
  rw [this]
  exact h0
theorem sq_len (T : Nat → Int) : (sqM T).length = 4 ∧ ∀ r ∈ sqM T, r.length = 4 := by
  unfold sqM
  refine ⟨rfl, fun r hr => ?_⟩
  simp only [List.mem_cons, List.not_mem_nil, or_false] at hr
  rcases hr with rfl | rfl | rfl | rfl <;> rfl
/-- all of a square is short -/
theorem sq_le {t : Nat → Nat} (ht : ∀ i, t i ≤ 10) : ∀ r ∈ sqM (fun i => ((t i : Nat) : Int)), ∀ y ∈ r, ∃ k : Nat, k ≤ 10 ∧ y = (k : Int) := by
  have h0 : ∃ k : Nat, k ≤ 10 ∧ (0 : Int) = (k : Int) := ⟨0, by decide, rfl⟩
  have hi : ∀ i, ∃ k : Nat, k ≤ 10 ∧ ((t i : Nat) : Int) = (k : Int) := fun i => ⟨t i, ht i, rfl⟩
  have r4 : ∀ {a b c d : Int}, (∃ k : Nat, k ≤ 10 ∧ a = (k : Int)) → (∃ k : Nat, k ≤ 10 ∧ b = (k : Int)) → (∃ k : Nat, k ≤ 10 ∧ c = (k : Int)) → (∃ k : Nat, k ≤ 10 ∧ d = (k : Int)) → ∀ y ∈ [a, b, c, d], ∃ k : Nat, k ≤ 10 ∧ y = (k : Int) := fun h1 h2 h3 h4 =>
    List.forall_mem_cons.mpr ⟨h1, List.forall_mem_cons.mpr ⟨h2, List.forall_mem_cons.mpr ⟨h3, List.forall_mem_cons.mpr ⟨h4, fun _ h => nomatch h⟩⟩⟩⟩
  exact List.forall_mem_cons.mpr ⟨r4 h0 (hi 0) (hi 1) (hi 3), List.forall_mem_cons.mpr ⟨r4 (hi 0) h0 (hi 2) (hi 4), List.forall_mem_cons.mpr ⟨r4 (hi 1) (hi 2) h0 (hi 5), List.forall_mem_cons.mpr ⟨r4 (hi 3) (hi 4) (hi 5) h0, fun _ h => nomatch h⟩⟩⟩⟩
theorem ml_get {J : List (List Int)} {i : Nat} {y : MV} (h : (ml J)[i]? = some y) : ∃ r, J[i]? = some r ∧ y = .lst (mi r) := by
  unfold ml at h
  rw [List.getElem?_map] at h
  cases e : J[i]? with
  | none => rw [e] at h; cases h
  | some c => rw [e] at h; cases h; exact ⟨c, rfl, rfl⟩
theorem mi_at {r : List Int} {i : Nat} {y : MV} (h : (mi r)[i]? = some y) : ∃ x, r[i]? = some x ∧ y = .int x := by
  unfold mi at h
  rw [List.getElem?_map] at h
  cases e : r[i]? with
  | none => rw [e] at h; cases h
  | some c => rw [e] at h; cases h; exact ⟨c, rfl, rfl⟩
theorem ml_of {J : List (List Int)} {i : Nat} {r : List Int} (h : J[i]? = some r) : (ml J)[i]? = some (.lst (mi r)) := by
  unfold ml; rw [List.getElem?_map, h]; rfl
theorem relax_shape {mn mx : Int → Int → Int} (M : List (List Int)) (s : Nat) : (relax mn mx 0 M s).length = 4 ∧ ∀ r ∈ relax mn mx 0 M s, r.length = 4 := by
  unfold relax
  refine ⟨by rw [List.length_map, List.length_range], fun r hr => ?_⟩
  obtain ⟨a, _, rfl⟩ := List.mem_map.mp hr
  rw [List.length_map, List.length_range]
theorem wide_shape {mn mx : Int → Int → Int} {M : List (List Int)} (h : M.length = 4 ∧ ∀ r ∈ M, r.length = 4) : ∀ l : List Nat, (l.foldl (relax mn mx 0) M).length = 4 ∧ ∀ r ∈ l.foldl (relax mn mx 0) M, r.length = 4 := by
  intro l
  induction l generalizing M with
  | nil => exact h
  | cons s l ih => exact ih (relax_shape M s)
theorem net_min {T : Nat → Int} {m a b c : Int} (hin : a + b + c ∈ net0 T 6) (hleast : ∀ n ∈ net0 T 6, a + b + c ≤ n) (h1 : m ∈ net0 T 6) (h2 : ∀ n ∈ net0 T 6, m ≤ n) : [a, b, c].sum = m := by
  rw [show [a, b, c].sum = a + b + c by show a + (b + (c + 0)) = _; rw [Int.add_zero, Int.add_assoc]]
  exact Int.le_antisymm (hleast m h1) (h2 _ hin)
theorem sum3_bits {a b c : Int} (ha : Builtin.Int.intBits a ≤ 9441) (hb : Builtin.Int.intBits b ≤ 9441) (hc : Builtin.Int.intBits c ≤ 9441) : Builtin.Int.intBits (a + b + c) ≤ 9443 :=
  PySem.intBits_add_le (m := 9442) (n := 9441) (PySem.intBits_add_le ha hb) hc
/-- how long the parts are -/
theorem parts_bits {n : Nat} {P W : Int} {X : Nat → Int} (N : NumF n P W X) : Builtin.Int.intBits P ≤ 2 ^ 15 ∧ (∀ i j k, Builtin.Int.intBits (X i + X j + X k) ≤ 2 ^ 15) ∧
    (∀ i j k m, Builtin.Int.intBits (P * (X i + X j + X k) - X m ^ 2) ≤ 2 ^ 15) ∧ (∀ i j k, Builtin.Int.intBits (P * X i + X j * X k) ≤ 2 ^ 15) := by
  have bP : Builtin.Int.intBits P ≤ 9443 := by rw [← N.piv]; exact sum3_bits (N.bX 0) (N.bX 2) (N.bX 4)
  refine ⟨Nat.le_trans bP (by decide), fun i j k => Nat.le_trans (sum3_bits (N.bX i) (N.bX j) (N.bX k)) (by decide), fun i j k m => ?_, fun i j k => ?_⟩
  · exact Nat.le_trans (PySem.intBits_sub_le (PySem.intBits_mul_le bP (sum3_bits (N.bX i) (N.bX j) (N.bX k))) (PySem.intBits_pow_le (N.bX m) 2)) (by decide)
  · exact Nat.le_trans (PySem.intBits_add_le (PySem.intBits_mul_le bP (N.bX i)) (PySem.intBits_mul_le (N.bX j) (N.bX k))) (by decide)
theorem deps_mi (l : List Int) : deps (mi l) = 0 := by
  induction l with
  | nil => rfl
  | cons x l ih => show max 0 (deps (mi l)) = 0; rw [ih]; rfl
theorem deps_ml (J : List (List Int)) : deps (ml J) ≤ 1 := by
  induction J with
  | nil => exact Nat.zero_le _
  | cons x l ih => show max (deps (mi x) + 1) (deps (ml l)) ≤ 1; rw [deps_mi]; exact Nat.max_le.mpr ⟨Nat.le_refl _, ih⟩
end Mine

end

section
set_option maxRecDepth 100000
open PySem PySem.W PySem.Calls PyProof.Rows Yy
namespace Mine



noncomputable def starts2 : List Int := [1, 66, 117, 8]
theorem starts_get {i : Nat} {y : MV} (h : (enmItems (mi starts2))[i]? = some y) : ∃ st, starts2[i]? = some st ∧ y = .tup [.int i, .int st] := by
  obtain ⟨x, hx, rfl⟩ := enmItems_get h
  unfold mi at hx
  rw [List.getElem?_map] at hx
  cases e : starts2[i]? with
  | none => rw [e] at hx; cases hx
  | some c => rw [e] at hx; cases hx; exact ⟨c, rfl, rfl⟩
noncomputable def cell2 (ns : List Int) (i : Nat) : Nat := ((starts2.getD i 0 + (pickNums ns (some (i : Int)) none (some 4)).sum).fmod 120).toNat
theorem cell2_lt (ns : List Int) (i : Nat) : cell2 ns i < 120 := by
  unfold cell2
  refine gen (starts2.getD i 0 + (pickNums ns (some (i : Int)) none (some 4)).sum) fun x => ?_
  have h1 := Int.emod_nonneg x (b := 120) (by decide)
  have h2 := Int.emod_lt_of_pos x (b := 120) (by decide)
  rw [Int.fmod_eq_emod_of_nonneg _ (by decide)]
  lia
noncomputable def ni (ns : List Nat) : List Int := ns.map fun (n : Nat) => (n : Int)
theorem mini_get {cs : List Nat} {j : Nat} {y : MV} (h : (mi (ni cs))[j]? = some y) : ∃ c, cs[j]? = some c ∧ y = .int (c : Int) := by
  unfold mi ni at h
  rw [List.getElem?_map, List.getElem?_map] at h
  cases e : cs[j]? with
  | none => rw [e] at h; cases h
  | some c => rw [e] at h; cases h; exact ⟨c, rfl, rfl⟩
theorem cells_get (ns : List Int) {j : Nat} {st : Int} (h : starts2[j]? = some st) : (mi (ni ((List.range 4).map (cell2 ns))))[j]? = some (.int ((st + (pickNums ns (some (j : Int)) none (some 4)).sum).fmod 120)) := by
  have hj : j < 4 := (List.getElem?_eq_some_iff.mp h).1
  refine mi_get ?_
  unfold ni
  rw [List.getElem?_map, List.getElem?_map, List.getElem?_range hj]
  show some ((cell2 ns j : Nat) : Int) = _
  have e : starts2.getD j 0 = st := by rw [List.getD_eq_getElem?_getD, h]; rfl
  unfold cell2
  rw [e]
  have h1 : 0 ≤ (st + (pickNums ns (some (j : Int)) none (some 4)).sum).fmod 120 := by
    rw [Int.fmod_eq_emod_of_nonneg _ (by decide)]; exact Int.emod_nonneg _ (by decide)
  rw [Int.toNat_of_nonneg h1]

/-- the law's own cells, but for the script's -/
noncomputable abbrev Cs (c : Nat → Addr) (ti he jo le pa wi wd st : Option MV) (t : Led) : Led :=
  (c 8, .cell st) :: (c 7, .cell wd) :: (c 6, .cell wi) :: (c 5, .cell pa) :: (c 4, .cell le) :: (c 3, .cell jo) :: (c 2, .cell he) :: (c 1, .cell ti) :: t
theorem eol_get : ∀ k < 3, ([MV.str (S "\n"), MV.str (S "\r\n"), MV.str (S "\r")])[k]? = some (.str (St (eol3.getD k []))) :=
  below3 rfl rfl rfl
theorem eol_len : ∀ k < 3, (eol3.getD k []).length ≤ 2 := by decide
theorem mail_len : ∀ cs : List Nat, (∀ c ∈ cs, c < 120) → (mail2 cs).length ≤ 7 * cs.length + 1
  | [], _ => by decide
  | c :: cs, h => by
    have e : mail2 (c :: cs) = rowS c 0 ++ (eol3.getD (c / 40) [] ++ mail2 cs) := by
      unfold mail2; rw [List.map_cons, List.flatten_cons, List.append_assoc, List.append_assoc]
    have h1 := rowS_len (c := c) (m := 0) (by decide)
    have h2 := eol_len (c / 40) (Nat.div_lt_of_lt_mul (h c List.mem_cons_self))
    have h3 := mail_len cs fun x hx => h x (List.mem_cons_of_mem _ hx)
    rw [e, List.length_append, List.length_append, List.length_cons, Nat.mul_succ, Nat.add_right_comm, Nat.add_comm _ 7, ← Nat.add_assoc]
    exact Nat.add_le_add (Nat.add_le_add h1 h2) h3
theorem sent_len {m : Nat} (hm : m ≤ 2) : ∀ cs : List Nat, (sent2 cs m).length ≤ 7 * cs.length + 2
  | [] => Nat.le_refl 2
  | c :: cs => by
    have e : sent2 (c :: cs) m = rowS c m ++ (13 :: 10 :: sent2 cs m) := by simp [sent2, lines]
    have h1 := rowS_len (c := c) hm
    have h3 := sent_len hm cs
    rw [e, List.length_append, List.length_cons, List.length_cons, List.length_cons, Nat.mul_succ, Nat.add_right_comm, Nat.add_comm _ 7]
    show _ ≤ 5 + 2 + _
    rw [Nat.add_assoc 5 2]
    exact Nat.add_le_add h1 (by rw [Nat.add_comm 2]; exact Nat.add_le_add_right h3 2)
noncomputable def sentK (cs : List Nat) : Nat → List Nat
  | 0 => mail2 cs
  | k + 1 => sent2 cs (k + 1)
theorem quote_sent {cs : List Nat} (h : ∀ c ∈ cs, c < 120) : ∀ k, quote (sentK cs k) = sentK cs (k + 1)
  | 0 => by
    show dots true (norm false (mail2 cs)) = sent2 cs 1
    rw [norm_mail cs h, dots_sent]
  | k + 1 => by
    show dots true (norm false (sent2 cs (k + 1))) = sent2 cs (k + 2)
    rw [norm_sent, dots_sent]

theorem tks_snoc {g : Nat → List MV} (l : List PN) (p : PN) : tks ((l ++ [p]).map (up g)) = tks (l.map (up g)) ++ [tk (up g p)] := by
  unfold tks; rw [List.map_append, List.map_append]; rfl
/-- the cells that are still wanted -/
noncomputable abbrev Ck (c : Nat → Addr) (he jo le pa wi wd st : Option MV) (t : Led) : Led :=
  (c 8, .cell st) :: (c 7, .cell wd) :: (c 6, .cell wi) :: (c 5, .cell pa) :: (c 4, .cell le) :: (c 3, .cell jo) :: (c 2, .cell he) :: t
theorem row_get {cs : List Nat} {m i : Nat} (h : i < cs.length) : (ms (cs.map fun x => St (rowS x m)))[(i : Int).toNat]? = some (.str (St (rowS (cs.getD i 0) m))) := by
  rw [Int.toNat_natCast]
  refine ms_get ?_
  rw [List.getElem?_map, List.getElem?_eq_getElem h, List.getD_eq_getElem?_getD, List.getElem?_eq_getElem h]; rfl
theorem getD_lt {cs : List Nat} (hcb : ∀ x ∈ cs, x < 120) (i : Nat) : cs.getD i 0 < 120 := by
  rw [List.getD_eq_getElem?_getD]
  cases e : cs[i]? with
  | none => decide
  | some x => exact hcb x (List.mem_of_getElem? e)

theorem joinM_shape {α : Type} (hs : List Nat) (p0 p1 : Nat) (w : α) (J : List (List α)) : (joinM hs p0 p1 w J).length = 4 ∧ ∀ r ∈ joinM hs p0 p1 w J, r.length = 4 := by
  unfold joinM
  refine ⟨by rw [List.length_map, List.length_range], fun r hr => ?_⟩
  obtain ⟨a, _, rfl⟩ := List.mem_map.mp hr
  rw [List.length_map, List.length_range]
theorem kall_shape {α : Type} (w : α) (l : List (α × Nat)) : (kall w l).1.length = 4 ∧ (kall w l).2.1.length = 4 ∧ ∀ r ∈ (kall w l).2.1, r.length = 4 := by
  have main : ∀ (l : List (α × Nat)) (s : Kst α), (s.1.length = 4 ∧ s.2.1.length = 4 ∧ ∀ r ∈ s.2.1, r.length = 4) → ((l.foldl (fun s p => kstep s p.1 (p.2 / 4) (p.2 % 4)) s).1.length = 4 ∧ (l.foldl (fun s p => kstep s p.1 (p.2 / 4) (p.2 % 4)) s).2.1.length = 4 ∧ ∀ r ∈ (l.foldl (fun s p => kstep s p.1 (p.2 / 4) (p.2 % 4)) s).2.1, r.length = 4) := by
    intro l
    induction l with
    | nil => intro s h; exact h
    | cons p l ih =>
      intro s h
      rw [List.foldl_cons]
      refine ih _ ?_
      unfold kstep
      split
      · exact h
      · exact ⟨by rw [List.length_map]; exact h.1, joinM_shape _ _ _ _ _⟩
  exact main l (kinit w) ⟨rfl, rfl, fun r hr => by rw [List.eq_of_mem_replicate hr]; rfl⟩
theorem kall_steps {α : Type} (w : α) (l : List (α × Nat)) : (kall w l).2.2.length ≤ l.length := by
  have main : ∀ (l : List (α × Nat)) (s : Kst α), (l.foldl (fun s p => kstep s p.1 (p.2 / 4) (p.2 % 4)) s).2.2.length ≤ s.2.2.length + l.length := by
    intro l
    induction l with
    | nil => intro s; exact Nat.le_refl _
    | cons p l ih =>
      intro s
      rw [List.foldl_cons, List.length_cons]
      refine Nat.le_trans (ih _) ?_
      have : (kstep s p.1 (p.2 / 4) (p.2 % 4)).2.2.length ≤ s.2.2.length + 1 := by
        unfold kstep
        split
        · exact Nat.le_succ _
        · rw [List.length_append]; exact Nat.le_refl _
      rw [Nat.add_comm l.length 1, ← Nat.add_assoc]
      exact Nat.add_le_add_right this _
  exact Nat.le_trans (main l (kinit w)) (Nat.le_of_eq (Nat.zero_add _))
/-- what the ties have done that are shorter than x -/
noncomputable def KS (mid : List PN) (x : Int) : Kst Int := kall 0 (mid.take (lessN mid x))
theorem clip_nat {n k : Nat} (h : k ≤ n) : clipAt n (k : Int) = k := by rw [clipAt_nat, Nat.min_eq_left h]
theorem shelf_part {g : Nat → List MV} {pre post : List (Int × List MV)} {mid : List PN} {a b : Nat} (hb : b ≤ mid.length) : ((tks (shelfOf g pre post mid)).drop (pre.length + a)).take (pre.length + b - (pre.length + a)) = tks (((mid.drop a).take (b - a)).map (up g)) := by
  rw [Nat.add_sub_add_left]
  unfold tks shelfOf
  rw [List.map_append, ← List.drop_drop, List.drop_left' (by rw [List.length_map]), List.map_append]
  rcases Nat.lt_or_ge b a with q | q
  · rw [Nat.sub_eq_zero_of_le (Nat.le_of_lt q), List.take_zero, List.take_zero]; rfl
  · rw [List.drop_append_of_le_length (by rw [List.length_map, List.length_map]; exact Nat.le_trans q hb), List.take_append_of_le_length (by rw [List.length_drop, List.length_map, List.length_map]; exact Nat.sub_le_sub_right hb a)]
    rw [List.map_take, List.map_take, List.map_drop, List.map_drop]

/-! ### squares of four -/
noncomputable def gr (f : Nat → Nat → Int) : List (List Int) := (List.range 4).map fun a => (List.range 4).map (f a)
theorem gr_len (f : Nat → Nat → Int) : (ml (gr f)).length = 4 := by unfold ml gr; rw [List.length_map, List.length_map, List.length_range]
theorem row_len (f : Nat → Int) : (mi ((List.range 4).map f)).length = 4 := by rw [mi_len, List.length_map, List.length_range]
theorem gr_row {f : Nat → Nat → Int} {a : Nat} (h : a < 4) : (ml (gr f))[a]? = some (.lst (mi ((List.range 4).map (f a)))) := by
  unfold ml gr
  rw [List.getElem?_map, List.getElem?_map, List.getElem?_range h]; rfl
theorem row_cell {f : Nat → Int} {b : Nat} (h : b < 4) : (mi ((List.range 4).map f))[b]? = some (.int (f b)) := by
  refine mi_get ?_
  rw [List.getElem?_map, List.getElem?_range h]; rfl
theorem mlI {J : List (List Int)} (k : J.length = 4) {a : Nat} (h : a < 4) : (ml J)[(a : Int).toNat]? = some (.lst (mi (J.getD a []))) := by
  rw [Int.toNat_natCast]
  unfold ml
  rw [List.getElem?_map, List.getD_eq_getElem?_getD, List.getElem?_eq_getElem (by rw [k]; exact h)]; rfl
theorem mliI {J : List (List Int)} (k : J.length = 4) (k3 : ∀ r ∈ J, r.length = 4) {a b : Nat} (w : Int) (h : a < 4) (hb : b < 4) : (mi (J.getD a []))[(b : Int).toNat]? = some (.int ((J.getD a []).getD b w)) := by
  rw [Int.toNat_natCast]
  have e : (J.getD a []).length = 4 := by
    rw [List.getD_eq_getElem?_getD, List.getElem?_eq_getElem (by rw [k]; exact h)]
    exact k3 _ (List.getElem_mem _)
  refine mi_get ?_
  rw [List.getD_eq_getElem?_getD (l := J.getD a []), List.getElem?_eq_getElem (by rw [e]; exact hb)]; rfl
theorem two_in (x p0 p1 : Nat) : ([(p0 : Int), (p1 : Int)]).contains (x : Int) = decide (x = p0 ∨ x = p1) := by
  rw [Bool.eq_iff_iff, decide_eq_true_eq, List.contains_iff_mem, List.mem_cons, List.mem_singleton, Int.ofNat_inj, Int.ofNat_inj]

/-- what the law still wants at its end -/
noncomputable abbrev Cw (c : Nat → Addr) (jo wi wd st : Option MV) (t : Led) : Led :=
  (c 8, .cell st) :: (c 7, .cell wd) :: (c 6, .cell wi) :: (c 3, .cell jo) :: t

@[elab_as_elim] theorem kgen {P : MV → Kst Int → Kst Int → Prop} {i : Int} (y : MV) (K K' : Kst Int) {p : PN} (hy : y = .tup [.int i, .int ((p.2 / 4 : Nat) : Int), .int ((p.2 % 4 : Nat) : Int)]) (hser : p.2 / 4 < 4 ∧ p.2 % 4 < 4) (hks : K' = kstep K i (p.2 / 4) (p.2 % 4))
    (hK : K.1.length = 4 ∧ K.2.1.length = 4 ∧ ∀ r ∈ K.2.1, r.length = 4) (hsteps : K.2.2.length ≤ 6)
    (h : ∀ (u1 u2 : Nat) hs J st, u1 < 4 → u2 < 4 → hs.length = 4 → J.length = 4 → (∀ r ∈ J, r.length = 4) → st.length ≤ 6 → P (.tup [.int i, .int (u1 : Int), .int (u2 : Int)]) (hs, J, st) (kstep (hs, J, st) i u1 u2)) : P y K K' := by
  rw [hy, hks]
  exact h _ _ K.1 K.2.1 K.2.2 hser.1 hser.2 hK.1 hK.2.1 hK.2.2 hsteps

set_option maxHeartbeats 4000000 in
theorem law_code : LawStmt := by
  intro w h₀ C T D A hA t hT ns hn B a s R H ra k
  refine callX (d := 519) (bv := [(S "script", a)]) (binds := [(S "script", .lst (mi ns))]) C.nol (H.keep _ _ (H.base _ _ (C.inK 174 _ (by walk_at "u")))) (by with_unfolding_all rfl) (CodeAt.sound (codeOf C.inK (by walk_at "u")) H) hA (BindsTo.of_eq (by walk_at "u")) (.cons ra .nil) H (fun c L A' hA' => ⟨_, Cs c none none none none none none none none ((c 0, .cell (some (.lst (mi ns)))) :: t), .cell (by walk_at "u") (by walk_at "u") (by walk_at "set") .nil, ?_⟩) k
  have hh := hA'.handled
  have sz : sizeLine = 2 ^ 24 := rfl
  -- total
  refine Xs.cons (X1.cut [(S "total", .int ns.sum)] (Cs c none none none none none none none none ((c 0, .cell (some (.lst (mi ns)))) :: t)) ?_ ?_)
  · skip
    walk_at "Y"
    refine b_sum hh ⟨_, rfl, ?_⟩
    exact ⟨by walk_at "has", rfl⟩
  -- cells
  refine Xs.cons (X1.cut [(S "total", .int ns.sum), (S "cells", .lst (mi (ni ((List.range 4).map (cell2 ns)))))] (Cs c none none none none none none none none t) ?_ ?_)
  · skip
    refine X1.assignComp (cl := [(S "script", c 0)]) ⟨by walk_at "u", by walk_at "u", by decide⟩ (by walk_at "u") (by walk_at "u") ?_ (by intro _; walk_at "u") (by walk_at "u")
    refine It1.enum hh (by walk_at "u") ?_ (by walk_at "u")
    walk_at "Y"
    refine ⟨rfl, ?_⟩
    with_reducible refine E1.tup ?_ (by decide) (by walk_at "u")
    walk_at "Y"
    refine fun c' C' D' => ?_
    refine CompR.to (led := fled _ _ _) (mi (ni ((List.range 4).map (cell2 ns)))) (by simp [mi, ni, enmItems]) (by simp [enmItems]) (fun j y acc hy => ?_) ?_
    · refine Exists.elim (starts_get (i := j) hy) fun st q => As.eq q.2 ?_
      have hst := q.1
      refine As.tup hh ?_ rfl (by walk_at "u")
      refine As.loc (by walk_at "u") (by walk_at "u") (As.loc (by walk_at "u") (by walk_at "u") ?_)
      show E1 _ _ _ _ _ _ _ _ _
      refine E1.bin (E1.bin (E1.loc (by walk_at "u") (by walk_at "u") (by walk_at "u") (E1.call (E1.blt (Cx.gd ‹Cx _ _›) (by walk_at "u") (by walk_at "u") (by walk_at "u") (by walk_at "u") (by walk_at "u") (Es.co ?_) (by walk_at "u")) (by walk_at "u")) (by walk_at "u")))
      refine E1.sliceStep ?_ (by intro _ _; walk_at "u")
      walk_at "Y"
      refine ⟨ns, rfl, by decide, Nat.le_trans hn (by decide), ?_⟩
      walk_at "Y"
      refine b_sum hh ⟨_, rfl, ?_⟩
      walk_at "Y"
      refine BinQ.modI ?_ (by decide)
      exact ⟨rfl, cells_get ns hst⟩
    · refine ⟨Cs c none none none none none none none none t, ?_, NewL.frz ?_ (by simp [mi, ni, sz])⟩
      · exact .cons_cons _ (.cons_cons _ (.cons_cons _ (.cons_cons _ (.cons_cons _ (.cons_cons _ (.cons_cons _ (.cons_cons _ (.cons_cons _ (.cons _ (List.Sublist.refl _))))))))))
      · exact ⟨by walk_at "has", rfl⟩
  have hcl : ((List.range 4).map (cell2 ns)).length = 4 := by simp
  have hcb : ∀ x ∈ (List.range 4).map (cell2 ns), x < 120 := fun x hx => by
    obtain ⟨i, _, rfl⟩ := List.mem_map.mp hx
    exact cell2_lt ns i
  revert hcb
  revert hcl
  refine gen ((List.range 4).map (cell2 ns)) fun cs => ?_
  intro hcl hcb
  refine gen (ns.sum) fun tot => ?_
  -- times
  obtain ⟨z, hz, ez⟩ : ∃ z : Nat, z < 2 ∧ tot.fmod 2 = (z : Int) := by
    have h1 := Int.emod_nonneg tot (b := 2) (by decide)
    have h2 := Int.emod_lt_of_pos tot (b := 2) (by decide)
    have h3 : tot.fmod 2 = tot % 2 := Int.fmod_eq_emod_of_nonneg _ (by decide)
    exact ⟨(tot % 2).toNat, by lia, by lia⟩
  refine Xs.cons (X1.cut [(S "total", .int tot), (S "cells", .lst (mi (ni cs)))] (Cs c (some (.int ((1 + z : Nat) : Int))) none none none none none none none t) ?_ ?_)
  · skip
    refine X1.assignC' (by walk_at "u") (by walk_at "u") (by walk_at "u") ?_ (by walk_at "u")
    walk_at "Y"
    refine BinQ.modI ?_ (by decide)
    walk_at "Y"
    rw [ez, show (1 : Int) + (z : Int) = ((1 + z : Nat) : Int) from (Int.natCast_add 1 z).symm]
    exact ⟨_, by walk_at "set", by walk_at "has", rfl⟩
  have hm2 : 1 + z ≤ 2 := by rw [Nat.add_comm]; exact hz
  have hml := mail_len cs hcb
  rw [hcl] at hml
  have hsl : ∀ m ≤ 2, (sent2 cs m).length ≤ 30 := fun m hm => by have := sent_len hm cs; rw [hcl] at this; exact this
  -- mail
  refine Xs.cons (X1.cut [(S "mail", .str (St (mail2 cs))), (S "total", .int tot), (S "cells", .lst (mi (ni cs)))] (Cs c (some (.int ((1 + z : Nat) : Int))) none none none none none none none t) ?_ ?_)
  · skip
    refine X1.assign (by walk_at "u") (by walk_at "u") (E1.bin (E1.meth meth_join ?_ (by walk_at "u") (by walk_at "u") (by walk_at "u") (by decide))) (by walk_at "u")
    walk_at "Y"
    refine ⟨rfl, ?_⟩
    refine Es.co (E1.comp (cl := []) ⟨by walk_at "u", by walk_at "u", by decide⟩ ?_ (by intro _; walk_at "u"))
    refine It1.list hh ?_
    walk_at "Y"
    refine ⟨_, rfl, fun c' C' D' => ?_⟩
    refine CompR.to (led := fled _ _ _) (ms ((cs.map fun x => rowS x 0 ++ eol3.getD (x / 40) []).map St)) (by simp [ms, mi, ni]) (by simp [mi, ni, hcl]) (fun j y acc hy => ?_) ?_
    · refine Exists.elim (mini_get hy) fun x q => As.eq q.2 ?_
      have hx := q.1
      have hx120 := hcb x (List.mem_of_getElem? hx)
      refine As.loc (by walk_at "u") (by walk_at "u") ?_
      walk_at "Y"
      refine Cl.fn (row_spec C (hA'.less (by decide)) (m := 0) (by decide)) ?_
      walk_at "Y"
      with_reducible refine E1.tup ?_ (by decide) (by walk_at "u")
      walk_at "Y"
      refine BinQ.fdivI ?_ (by decide) (PyProof.noPylong_small (by decide))
      rw [show (x : Int).fdiv 40 = ((x / 40 : Nat) : Int) from nat_div x 40]
      have h3 : x / 40 < 3 := Nat.div_lt_of_lt_mul hx120
      refine ⟨ix h3 (by decide), _, (by rw [Int.toNat_natCast]; exact eol_get _ h3), ?_⟩
      refine BinQ.addT ?_ (Nat.le_trans (Nat.add_le_add (rowS_len (by decide)) (eol_len _ h3)) (by decide))
      exact ⟨rfl, ms_get (by rw [List.getElem?_map, List.getElem?_map, hx]; rfl)⟩
    · refine ⟨_, List.Sublist.refl _, NewL.frz ?_ (by simp [ms, sz, hcl])⟩
      walk_at "Y"
      have h2 := hml
      unfold mail2 at h2
      rw [List.length_append] at h2
      refine f_join rfl (by rw [List.length_map, hcl]; exact Nat.le_trans (Nat.add_le_add_right (Nat.le_trans (Nat.le_add_right _ _) h2) 4) (by decide)) ?_
      walk_at "Y"
      rw [show Str.ofString "\r" = St [13] from rfl]
      refine BinQ.addT ?_ (Nat.le_trans h2 (by decide))
      exact ⟨by walk_at "has", rfl⟩
  -- it is sent
  refine Xs.cons (X1.cut [(S "mail", .str (St (sent2 cs (1 + z)))), (S "total", .int tot), (S "cells", .lst (mi (ni cs)))] (Cs c (some (.int ((1 + z : Nat) : Int))) none none none none none none none t) ?_ ?_)
  · skip
    refine X1.for (It1.rng hh ?_) (by intro _; walk_at "u")
    walk_at "Y"
    refine ⟨rfl, ?_⟩
    walk_at "Y"
    refine ⟨1 + z, rfl, Nat.le_trans hm2 (by decide), ?_⟩
    refine ForR.rng (σ := Unit) (fun i _ => [(S "mail", .str (St (sentK cs i))), (S "total", .int tot), (S "cells", .lst (mi (ni cs)))]) (fun _ _ => Cs c (some (.int ((1 + z : Nat) : Int))) none none none none none none none t) (fun _ _ => True) () trivial (by walk_at "has") rfl ?_ ?_
    · rintro i s hi -
      have hi2 : i < 2 := Nat.lt_of_lt_of_le hi hm2
      have hl : (sentK cs i).length ≤ 30 := by
        match i, hi2 with
        | 0, _ => exact Nat.le_trans hml (by decide)
        | 1, _ => exact hsl 1 (by decide)
      refine As.loc (by walk_at "u") (by walk_at "u") ?_
      refine Xs.cons ?_
      walk_at "Y"
      refine Cl.fn (quote_spec C (hA'.less (by decide)) (Nat.le_trans hl (by decide))) ?_
      rw [quote_sent hcb]
      walk_at "Y"
      exact ⟨(), trivial, by walk_at "has", rfl⟩
    · intro m s _ hm
      rw [Nat.add_comm 1 z] at hm
      rw [Nat.add_comm 1 z]
      exact ⟨hm, rfl⟩
  -- what came
  refine Xs.cons (X1.cut [(S "mail", .str (St (sent2 cs (1 + z)))), (S "total", .int tot), (S "cells", .lst (mi (ni cs)))] (Cs c (some (.int ((1 + z : Nat) : Int))) none none none none none none none t) ?_ ?_)
  · skip
    refine X1.if ?_
    walk_at "Y"
    refine E1.meth meth_join ?_ (by walk_at "u") (by walk_at "u") (by walk_at "u") (by decide)
    walk_at "Y"
    refine ⟨rfl, ?_⟩
    refine Es.co (E1.comp (cl := [(S "times", c 1)]) ⟨by walk_at "u", by walk_at "u", by decide⟩ ?_ (by intro _; walk_at "u"))
    refine It1.list hh ?_
    walk_at "Y"
    refine ⟨_, rfl, fun c' C' D' => ?_⟩
    refine CompR.to (led := fled _ _ _) (ms ((cs.map fun x => rowS x (1 + z) ++ [13, 10]).map St)) (by simp [ms, mi, ni]) (by simp [mi, ni, hcl]) (fun j y acc hy => ?_) ?_
    · refine Exists.elim (mini_get hy) fun x q => As.eq q.2 ?_
      have hx := q.1
      refine As.loc (by walk_at "u") (by walk_at "u") ?_
      walk_at "Y"
      refine Cl.fn (row_spec C (hA'.less (by decide)) (m := 1 + z) hm2) ?_
      walk_at "Y"
      rw [show Str.ofString "\r\n" = St [13, 10] from rfl]
      refine BinQ.addT ?_ (Nat.le_trans (Nat.add_le_add_right (rowS_len hm2) _) (show 5 + 2 ≤ 2 ^ 20 by decide))
      exact ⟨rfl, ms_get (by rw [List.getElem?_map, List.getElem?_map, hx]; rfl)⟩
    · refine ⟨_, List.Sublist.refl _, NewL.frz ?_ (by simp [ms, sz, hcl])⟩
      walk_at "Y"
      have h2 := hsl (1 + z) hm2
      have e2 : (cs.map fun x => rowS x (1 + z) ++ [13, 10]).flatten ++ [13, 10] = sent2 cs (1 + z) := by
        unfold sent2 lines; rw [List.map_map]; rfl
      rw [← e2, List.length_append] at h2
      refine f_join rfl (by rw [List.length_map, hcl]; exact Nat.le_trans (Nat.add_le_add_right (Nat.le_trans (Nat.le_add_right _ _) h2) 4) (by decide)) ?_
      walk_at "Y"
      rw [show Str.ofString "\r\n" = St [13, 10] from rfl]
      refine BinQ.addT ?_ (Nat.le_trans h2 (by decide))
      rw [e2]
      refine CmpQ.neT ?_
      walk_at "Y"
      refine two_dec (fun g => absurd rfl g) (fun _ => ?_)
      walk_at "Y"
      exact ⟨by walk_at "has", rfl⟩
  -- rows
  refine Xs.cons (X1.cut [(S "rows", .lst (ms (cs.map fun x => St (rowS x (z + 1))))), (S "total", .int tot)] (Cs c (some (.int ((1 + z : Nat) : Int))) none none none none none none none t) ?_ ?_)
  · skip
    refine X1.assign (by walk_at "u") (by walk_at "u") (E1.sliceT (E1.meth meth_split ?_ (by walk_at "u") (by walk_at "u") (by walk_at "u") (by decide))) (by walk_at "u")
    walk_at "Y"
    refine ⟨rfl, ?_⟩
    walk_at "Y"
    rw [show Str.ofString "\r\n" = St [13, 10] from rfl]
    have h2 := hsl (1 + z) hm2
    refine b_split (by decide) (by rw [St.len, sz]; exact Nat.le_trans (Nat.add_le_add_right h2 2) (by decide)) (NewL.frz ?_ (by rw [split_sent]; simp [ms, sz, hcl]))
    rw [split_sent]
    walk_at "Y"
    refine SlQ.lTo (k := 4) (by simp [ms, hcl]) ?_
    have e4 : (ms ((cs.map fun c => St (rowS c (1 + z))) ++ [St [], St []])).take 4 = ms (cs.map fun x => St (rowS x (z + 1))) := by
      unfold ms
      rw [List.map_append, Nat.add_comm 1 z]
      exact List.take_left' (by rw [List.length_map, List.length_map, hcl])
    rw [e4]
    exact ⟨by walk_at "has", rfl⟩
  refine Xs.weak (m' := [(S "rows", .lst (ms (cs.map fun x => St (rowS x (z + 1))))), (S "total", .int tot)]) (led' := Ck c none none none none none none none t) (fun _ _ e => e) (.cons_cons _ (.cons_cons _ (.cons_cons _ (.cons_cons _ (.cons_cons _ (.cons_cons _ (.cons_cons _ (.cons _ (List.Sublist.refl _))))))))) ?_
  have h20 : cs.length ≤ 2 ^ 20 := by rw [hcl]; decide
  -- ties
  refine Xs.cons (X1.assign (by walk_at "u") (by walk_at "u") (E1.list (Es.ni (NewL.own fun P => ?_))) (by walk_at "u"))
  -- shelf
  refine Xs.cons (X1.assign (by walk_at "u") (by walk_at "u") (E1.addL (E1.mulL (E1.list (Es.co (E1.tup ?_ (by decide) (by walk_at "u")))))) (by walk_at "u"))
  walk_at "Y"
  refine NewL.frz ⟨_, rfl, ?_⟩
  walk_at "Y"
  refine ⟨3, rfl, ⟨by decide, by decide, by decide⟩, NewL.frz ⟨_, rfl, ?_⟩⟩
  refine E1.mulL (E1.list (Es.co (E1.tup ?_ (by decide) (by walk_at "u"))))
  walk_at "Y"
  refine NewL.frz ⟨_, rfl, ?_⟩
  walk_at "Y"
  refine ⟨3, rfl, ⟨by decide, by decide, by decide⟩, NewL.frz ⟨_, rfl, NewL.own fun H => ?_⟩⟩
  refine Xs.weak (led' := (H, .list (tks (shelfOf g2 pre2 post2 []))) :: (P, .list []) :: Ck c none none none none none none none t) (fun _ _ e => e) (List.Sublist.refl _) ?_
  obtain ⟨D', hD'⟩ : ∃ D' : Nat → Nat → Int, D' = fun h l => farC z (cs.getD h 0) (cs.getD l 0) := ⟨_, rfl⟩
  refine Xs.cons (X1.for (It1.rng hh ?_) (by intro _; walk_at "u"))
  walk_at "Y"
  refine ⟨rfl, ?_⟩
  walk_at "Y"
  refine ⟨4, rfl, by decide, ?_⟩
  refine ForR.rng (σ := List PN) (fun _ _ => [(S "rows", .lst (ms (cs.map fun x => St (rowS x (z + 1))))), (S "total", .int tot), (S "shelf", .obj H), (S "ties", .obj P)]) (fun i mid => (H, .list (tks (shelfOf g2 pre2 post2 mid))) :: (P, .list (tks ((prAll D' i).map (up g2)))) :: Ck c none none none none none none none t)
    (fun i mid => mid.Perm (prAll D' i) ∧ mid.Pairwise LexK) [] ⟨List.Perm.refl _, .nil⟩ (by walk_at "has") rfl ?_ ?_
  · skip
    intro i mid0 hi4 hP0
    have hperm0 := hP0.1
    have hlex0 := hP0.2
    have hiL : i < cs.length := by rw [hcl]; exact hi4
    refine As.loc (by walk_at "u") (by walk_at "u") ?_
    refine Xs.cons ?_
    refine X1.for (It1.rng hh ?_) (by intro _; walk_at "u")
    walk_at "Y"
    refine ⟨rfl, ?_⟩
    walk_at "Y"
    refine ⟨i, rfl, Nat.le_trans (Nat.le_of_lt hi4) (by decide), ?_⟩
    refine ForR.rng (σ := List PN) (fun _ _ => [(S "high", .int (i : Int)), (S "rows", .lst (ms (cs.map fun x => St (rowS x (z + 1))))), (S "total", .int tot), (S "shelf", .obj H), (S "ties", .obj P)]) (fun j mid => (H, .list (tks (shelfOf g2 pre2 post2 mid))) :: (P, .list (tks ((prAll D' i ++ prIn D' i j).map (up g2)))) :: Ck c none none none none none none none t)
      (fun j mid => mid.Perm (prAll D' i ++ prIn D' i j) ∧ mid.Pairwise LexK) mid0 ⟨by rw [show prIn D' i 0 = [] from rfl, List.append_nil]; exact hperm0, hlex0⟩ (by walk_at "has") (by rw [show prIn D' i 0 = [] from rfl, List.append_nil]) ?_ ?_
    · intro j mid hji hP1
      have hperm := hP1.1
      have hlex := hP1.2
      have hj4 : j < 4 := Nat.lt_trans hji hi4
      have hjL : j < cs.length := Nat.lt_trans hji hiL
      have hci := getD_lt hcb i
      have hcj := getD_lt hcb j
      have hmlen : mid.length ≤ 30 := by
        rw [hperm.length_eq, List.length_append, prIn_len]
        exact Nat.le_trans (Nat.add_le_add (prAll_len_le i (Nat.le_of_lt hi4)) (Nat.le_of_lt hj4)) (Nat.le_trans (Nat.add_le_add_right (Nat.mul_le_mul_left 4 (Nat.le_of_lt hi4)) 4) (by decide))
      have eD : D' i j = farC z (cs.getD i 0) (cs.getD j 0) := by rw [hD']
      have F := far_ok hz hci hcj
      have f1 := F.1
      have f2 := F.2.1
      rw [← eD] at f1 f2
      have l40 : ∀ x, (rowS x (z + 1)).length ≤ 40 := fun x => Nat.le_trans (rowS_len (Nat.succ_le_of_lt hz)) (by decide)
      refine As.loc (by walk_at "u") (by walk_at "u") ?_
      -- due
      refine Xs.cons (X1.cut [(S "due", .int (D' i j)), (S "low", .int (j : Int)), (S "high", .int (i : Int)), (S "rows", .lst (ms (cs.map fun x => St (rowS x (z + 1))))), (S "total", .int tot), (S "shelf", .obj H), (S "ties", .obj P)] ((H, .list (tks (shelfOf g2 pre2 post2 mid))) :: (P, .list (tks ((prAll D' i ++ prIn D' i j).map (up g2)))) :: Ck c none none none none none none none t) ?_ ?_)
      · walk_at "Y"
        refine ⟨ix hiL h20, _, row_get hiL, ?_⟩
        walk_at "Y"
        refine ⟨ix hjL h20, _, row_get hjL, ?_⟩
        walk_at "Y"
        refine Cl.fn (far_spec C (hA'.less (by decide)) (rowS_lt _ _) (rowS_lt _ _) (l40 _) (l40 _)) ?_
        rw [show far (rowS (cs.getD i 0) (z + 1)) (rowS (cs.getD j 0) (z + 1)) = D' i j from eD.symm]
        exact ⟨by walk_at "has", rfl⟩
      -- told
      refine Xs.cons (X1.cut [(S "told", .int (D' i j)), (S "due", .int (D' i j)), (S "low", .int (j : Int)), (S "high", .int (i : Int)), (S "rows", .lst (ms (cs.map fun x => St (rowS x (z + 1))))), (S "total", .int tot), (S "shelf", .obj H), (S "ties", .obj P)] ((H, .list (tks (shelfOf g2 pre2 post2 mid))) :: (P, .list (tks ((prAll D' i ++ prIn D' i j).map (up g2)))) :: Ck c none none none none none none none t) ?_ ?_)
      · walk_at "Y"
        refine BinQ.modI ?_ (by decide)
        walk_at "Y"
        refine two_dec (fun _ => ?_) (fun _ => ?_)
        · walk_at "Y"
          refine ⟨ix hiL h20, _, row_get hiL, ?_⟩
          walk_at "Y"
          refine ⟨ix hjL h20, _, row_get hjL, ?_⟩
          walk_at "Y"
          refine Cl.fn (lev_spec C (hA'.less (by decide)) (rowS_lt _ _) (rowS_lt _ _) (l40 _) (l40 _)) ?_
          rw [f1]
          walk_at "Y"
          exact ⟨by walk_at "has", rfl⟩
        · walk_at "Y"
          refine ⟨ix hjL h20, _, row_get hjL, ?_⟩
          walk_at "Y"
          refine ⟨ix hiL h20, _, row_get hiL, ?_⟩
          walk_at "Y"
          refine Cl.fn (lev_spec C (hA'.less (by decide)) (rowS_lt _ _) (rowS_lt _ _) (l40 _) (l40 _)) ?_
          rw [f2]
          walk_at "Y"
          exact ⟨by walk_at "has", rfl⟩
      -- they are one
      refine Xs.cons (X1.cut [(S "told", .int (D' i j)), (S "low", .int (j : Int)), (S "high", .int (i : Int)), (S "rows", .lst (ms (cs.map fun x => St (rowS x (z + 1))))), (S "total", .int tot), (S "shelf", .obj H), (S "ties", .obj P)] ((H, .list (tks (shelfOf g2 pre2 post2 mid))) :: (P, .list (tks ((prAll D' i ++ prIn D' i j).map (up g2)))) :: Ck c none none none none none none none t) ?_ ?_)
      · walk_at "Y"
        refine two_dec (fun g => absurd rfl g) (fun _ => ?_)
        walk_at "Y"
        exact ⟨by walk_at "has", rfl⟩
      -- ties.append
      refine Xs.cons (X1.expr (E1.meth meth_append ?_ (by walk_at "u") (by walk_at "u") (by walk_at "u") (by decide)) (by walk_at "u") (by walk_at "u"))
      walk_at "Y"
      refine ⟨.inl ⟨_, memT (memT memH), rfl⟩, ?_⟩
      refine Es.co (E1.tup ?_ (by decide) (by walk_at "u"))
      walk_at "Y"
      have hpl : (prAll D' i ++ prIn D' i j).length ≤ 30 := by rw [← hperm.length_eq]; exact hmlen
      refine b_append (.tail (.tail .head)) (by rw [tks_len, List.length_map]; exact Nat.le_trans hpl (by decide)) ⟨_, rfl, rfl, ?_⟩
      have eup : MV.tup [.int (D' i j), .int (i : Int), .int (j : Int)] = tk (up g2 (D' i j, 4 * i + j)) := by
        show _ = MV.tup (.int (D' i j) :: g2 (4 * i + j))
        rw [g2_at hj4]
      have eP : tks ((prAll D' i ++ prIn D' i j).map (up g2)) ++ [MV.tup [.int (D' i j), .int (i : Int), .int (j : Int)]] = tks ((prAll D' i ++ prIn D' i (j + 1)).map (up g2)) := by
        rw [prIn_snoc, ← List.append_assoc, tks_snoc, ← eup]
      rw [eP]
      -- insort_right
      refine Xs.cons (X1.expr (E1.callk ?_ (by walk_at "u")) (by walk_at "u") (by walk_at "u"))
      walk_at "Y"
      refine E1.tup ?_ (by decide) (by walk_at "u")
      walk_at "Y"
      have hsl : (shelfOf g2 pre2 post2 mid).length = 6 + mid.length := by rw [shelf_len]; simp [pre2, post2]; lia
      refine f_lenO memH (by rw [tks_len, hsl]; exact Nat.le_trans (Nat.add_le_add_left hmlen 6) (by decide)) ?_
      walk_at "Y"
      rw [show ((tks (shelfOf g2 pre2 post2 mid)).length : Int) - 3 = ((pre2.length + mid.length : Nat) : Int) by rw [tks_len, hsl]; simp [pre2]; lia]
      have hnew : ∀ q ∈ mid, q.2 < (D' i j, 4 * i + j).2 := fun q hq => by
        have := hperm.mem_iff.mp hq
        rcases List.mem_append.mp this with h | h
        · exact Nat.lt_of_lt_of_le (prAll_lt i (Nat.le_of_lt hi4) q h) (Nat.le_add_right _ _)
        · exact (prIn_lt (Nat.le_of_lt hj4) q h).1
      rw [eup]
      refine Cl.onI (ins_spec C (hA'.less (by decide)) (p := up g2 (D' i j, 4 * i + j)) (lo := pre2.length) (LL := fun ys => _ :: (H, .list ys) :: _) (memT memH) (fun ys => .tail .head) (Nat.le_add_right _ _) (by rw [hsl]; exact Nat.add_le_add_right (show 3 ≤ 6 by decide) _) (by rw [hsl]; exact Nat.le_trans (Nat.add_le_add_left hmlen 6) (by decide)) (shelf_sorted hlex)) fun r hr => ?_
      refine ⟨_, rfl, rfl, ?_⟩
      refine Exists.elim (shelf_ins (p := (D' i j, 4 * i + j)) hr hlex hnew) fun mid' q => ?_
      have hp' := q.2.1
      have hs' := q.2.2
      rw [q.1]
      walk_at "Y"
      refine ⟨mid', ⟨hp'.trans ?_, hs'⟩, by walk_at "has", rfl⟩
      rw [prIn_snoc, ← List.append_assoc]
      exact (hperm.cons _).trans (List.perm_append_singleton _ _).symm
    · intro m mid hP hm
      refine Xs.nil ⟨mid, ⟨hP.1, hP.2⟩, fun x y e => hm x y ?_, rfl⟩
      exact (by walk_at "has" : Has _ _) x y e
  intro m mid hP hm
  have hperm := hP.1
  have hlex := hP.2
  refine Xs.has hm ?_
  clear hm
  have hml6 : mid.length = 6 := by rw [hperm.length_eq]; rfl
  have hsl : (shelfOf g2 pre2 post2 mid).length = 12 := by rw [shelf_len, hml6]; rfl
  have n12 : (tks (shelfOf g2 pre2 post2 mid)).length = 12 := by rw [tks_len, hsl]
  have ecut : (List.drop ((some (3 : Int)).elim 0 (clipAt 12)) (tks (shelfOf g2 pre2 post2 mid))).take ((some (9 : Int)).elim 12 (clipAt 12) - (some (3 : Int)).elim 0 (clipAt 12)) = tks (mid.map (up g2)) := by
    have := shelf_cut (g := g2) (pre := pre2) (post := post2) (mid := mid)
    rw [hml6] at this
    exact this
  have hu : A'.units ≤ 9800 := Nat.le_trans (Nat.le_add_right _ _) hA'.units
  refine Xs.frz (x := S "ties") (a := P) (by walk_at "u") (.tail .head) ?_
  -- the shelf is in order
  refine Xs.cons (X1.cut [(S "shelf", .obj H), (S "ties", .lst (tiesM (TT D'))), (S "rows", .lst (ms (cs.map fun x => St (rowS x (z + 1))))), (S "total", .int tot)] ((H, .list (tks (shelfOf g2 pre2 post2 mid))) :: Ck c none none none none none none none t) ?_ ?_)
  · skip
    refine X1.if (T1.same hu ?_ (by walk_at "u"))
    walk_at "Y"
    refine ⟨tks (shelfOf g2 pre2 post2 mid), memH, by rw [n12]; decide, ?_⟩
    rw [n12, ecut]
    refine E1.callk ?_ (by walk_at "u")
    walk_at "Y"
    have hlt : (tks ((prAll D' 4).map (up g2))).length = 6 := rfl
    refine b_sortK (kz := (prAll D' 4).map (·.1)) rfl rfl (by rw [hlt]; decide) (by rw [hlt]; decide) (.inl ⟨_, _, _, _, C.inK _ _ (by walk_at "u")⟩) (fun i x kk hx hk led' => ?_) (fun ys hst => NewL.frz ?_ ?_)
    · have hi : i < (prAll D' 4).length := by have := (List.getElem?_eq_some_iff.mp hk).1; rwa [List.length_map] at this
      unfold tks at hx
      rw [List.getElem?_map, List.getElem?_map, List.getElem?_eq_getElem hi] at hx
      rw [List.getElem?_map, List.getElem?_eq_getElem hi] at hk
      cases hx; cases hk
      have r1 : Rm A'.in1.in1 1 := ⟨hA'.handled, by have := hA'.depth; show A'.depth + 1 ≤ 900; lia, by have := hA'.units; show A'.units + 1 + 1 + 8 * 1 ≤ 9800; lia⟩
      exact first_spec C r1
    · rw [sorted_mid hst (prAll_inc 4 (by decide)) hperm hlex]
      refine ⟨rfl, ?_, trivial, ?_⟩
      · have := deps_tks (ps := mid.map (up g2)) (fun p hp => by obtain ⟨q, _, rfl⟩ := List.mem_map.mp hp; rfl)
        exact Nat.le_trans (Nat.succ_le_succ this) (by decide)
      · refine two_no ?_
        walk_at "Y"
        exact ⟨by walk_at "has", rfl⟩
    · rw [sorted_mid hst (prAll_inc 4 (by decide)) hperm hlex, tks_len, List.length_map, hml6]; decide
  -- lengths
  refine Xs.cons (X1.cut [(S "lengths", .lst (mi (mid.map (·.1)))), (S "shelf", .obj H), (S "ties", .lst (tiesM (TT D'))), (S "rows", .lst (ms (cs.map fun x => St (rowS x (z + 1))))), (S "total", .int tot)] ((H, .list (tks (shelfOf g2 pre2 post2 mid))) :: Ck c none none none none none none none t) ?_ ?_)
  · skip
    refine X1.assignComp (cl := []) ⟨by walk_at "u", by walk_at "u", by decide⟩ (by walk_at "u") (by walk_at "u") (It1.list hh ?_) (by intro _; walk_at "u") (by walk_at "u")
    walk_at "Y"
    refine ⟨tks (shelfOf g2 pre2 post2 mid), memH, by rw [n12]; decide, ?_⟩
    rw [n12, ecut]
    refine ⟨_, rfl, fun c' C' D' => ?_⟩
    refine CompR.to (led := fled _ _ _) (mi (mid.map (·.1))) (by simp [mi, tks]) (by simp [tks, hml6]) (fun j y acc hy => ?_) ?_
    · unfold tks at hy
      rw [List.getElem?_map, List.getElem?_map] at hy
      cases e : mid[j]? with
      | none => rw [e] at hy; cases hy
      | some p =>
        rw [e] at hy
        cases hy
        refine As.loc (by walk_at "u") (by walk_at "u") ?_
        walk_at "Y"
        refine ⟨⟨by decide, by decide⟩, _, rfl, ?_⟩
        exact ⟨rfl, mi_get (by rw [List.getElem?_map, e]; rfl)⟩
    · refine ⟨_, List.Sublist.refl _, NewL.frz ?_ (by simp [mi, sz, hml6])⟩
      exact ⟨by walk_at "has", rfl⟩
  -- heaps
  refine Xs.cons (X1.cut [(S "lengths", .lst (mi (mid.map (·.1)))), (S "shelf", .obj H), (S "ties", .lst (tiesM (TT D'))), (S "rows", .lst (ms (cs.map fun x => St (rowS x (z + 1))))), (S "total", .int tot)] ((H, .list (tks (shelfOf g2 pre2 post2 mid))) :: Ck c (some (.lst (mi (ni [0, 1, 2, 3])))) none none none none none none t) ?_ ?_)
  · skip
    refine X1.assignC' (by walk_at "u") (by walk_at "u") (by walk_at "u") ?_ (by walk_at "u")
    refine E1.list ?k1 ?k2
    case k2 => walk_at "u"
    walk_at "Y"
    refine NewL.frz ?_
    exact ⟨_, by walk_at "set", by walk_at "has", rfl⟩
  -- joined
  refine Xs.cons (X1.cut [(S "lengths", .lst (mi (mid.map (·.1)))), (S "shelf", .obj H), (S "ties", .lst (tiesM (TT D'))), (S "rows", .lst (ms (cs.map fun x => St (rowS x (z + 1))))), (S "total", .int tot)] ((H, .list (tks (shelfOf g2 pre2 post2 mid))) :: Ck c (some (.lst (mi (ni [0, 1, 2, 3])))) (some (.lst (ml (List.replicate 4 [0, 0, 0, 0])))) none none none none none t) ?_ ?_)
  · skip
    refine X1.assignC' (by walk_at "u") (by walk_at "u") (by walk_at "u") (E1.mulL ?_) (by walk_at "u")
    refine E1.list ?k3 ?k4
    case k4 => walk_at "u"
    refine Es.co ?_
    refine E1.list ?k5 ?k6
    case k6 => walk_at "u"
    walk_at "Y"
    refine NewL.frz ?_
    refine Es.ni (NewL.frz ⟨_, rfl, ?_⟩)
    walk_at "Y"
    refine ⟨4, rfl, ⟨by decide, by decide, by decide⟩, NewL.frz ?_⟩
    exact ⟨_, by walk_at "set", by walk_at "has", rfl⟩
  -- steps
  refine Xs.cons ?_
  refine X1.assign ?n1 ?n2 ?n3 ?n4
  case n1 => walk_at "u"
  case n2 => walk_at "u"
  case n4 => walk_at "u"
  refine E1.list ?n5 ?n6
  case n6 => walk_at "u"
  refine Es.ni (NewL.own fun Sx => ?_)
  have hT6 : ∀ i < 6, 0 ≤ TT D' i ∧ TT D' i ≤ 10 := fun i hi => by
    unfold TT
    rw [hD']
    exact (far_ok hz (getD_lt hcb _) (getD_lt hcb _)).2.2.1
  have hmem : ∀ p ∈ mid, 0 ≤ p.1 ∧ p.1 ≤ 10 := fun p hp => by
    obtain ⟨i, hi, rfl⟩ := mid_of (T := TT D') (hperm.trans (by rw [prAll_4])) hp
    exact hT6 i hi
  have e9 : pre2.length + mid.length = 9 := by rw [hml6]; rfl
  have hso := shelf_sorted (g := g2) (pre := pre2) (post := post2) hlex
  rw [e9] at hso
  have hso0 : SortedOn (mid.map (·.1)) 0 (mid.map (·.1)).length := fun i j x y _ hij hj ex ey => by
    rw [List.length_map] at hj
    rw [List.getElem?_map, List.getElem?_eq_getElem (Nat.lt_of_le_of_lt hij hj)] at ex
    rw [List.getElem?_map, List.getElem?_eq_getElem hj] at ey
    cases ex; cases ey
    exact lexK_le hlex hij hj
  have hml0 : (mid.map (·.1)).length ≤ 2 ^ 20 := by rw [List.length_map, hml6]; decide
  have hl0 : lessN mid ((0 : Nat) : Int) = 0 := by
    unfold lessN
    rw [List.countP_eq_zero]
    intro y hy
    obtain ⟨p, hp, rfl⟩ := List.mem_map.mp hy
    rw [decide_eq_true_eq]
    exact Int.not_lt.mpr (hmem p hp).1
  -- length by length
  refine Xs.cons (X1.for (It1.rng hh ?_) (by intro _; walk_at "u"))
  walk_at "Y"
  refine ⟨rfl, ?_⟩
  walk_at "Y"
  refine ⟨11, rfl, by decide, ?_⟩
  refine ForR.rng (σ := Option MV × Option MV) (fun _ _ => [(S "steps", .obj Sx), (S "lengths", .lst (mi (mid.map (·.1)))), (S "shelf", .obj H), (S "ties", .lst (tiesM (TT D'))), (S "rows", .lst (ms (cs.map fun x => St (rowS x (z + 1))))), (S "total", .int tot)])
    (fun i s => (Sx, .list (mi (KS mid i).2.2)) :: (H, .list (tks (shelfOf g2 pre2 post2 mid))) :: Ck c (some (.lst (mi (ni (KS mid i).1)))) (some (.lst (ml (KS mid i).2.1))) s.1 s.2 none none none t) (fun _ _ => True) (none, none) trivial (by walk_at "has") (by unfold KS; rw [hl0]; rfl) ?_ ?_
  · skip
    intro i s hi11 _
    refine As.cell' (by walk_at "u") (by walk_at "u") (by walk_at "u") (led' := (Sx, .list (mi (KS mid i).2.2)) :: (H, .list (tks (shelfOf g2 pre2 post2 mid))) :: Ck c (some (.lst (mi (ni (KS mid i).1)))) (some (.lst (ml (KS mid i).2.1))) (some (.int (i : Int))) s.2 none none none t) (by walk_at "set") ?_
    refine Xs.cons (X1.assign (by walk_at "u") (by walk_at "u") (E1.callk ?_ (by walk_at "u")) (by walk_at "u"))
    walk_at "Y"
    refine Cl.onN (bl_spec C (hA'.less (by decide)) (lo := 3) (hi := 9) (memT (memT memH)) (by decide) (by rw [hsl]; decide) (by rw [hsl]; decide) hso) (fun r1 hr1 => bl_at (g := g2) (pre := pre2) (post := post2) (mid := mid) (by rw [e9]; exact hr1)) ?_
    refine ⟨_, rfl, ?_⟩
    refine Xs.cons (X1.assign (by walk_at "u") (by walk_at "u") (E1.callk ?_ (by walk_at "u")) (by walk_at "u"))
    walk_at "Y"
    refine Cl.onN (br_spec C (hA'.less (by decide)) (lo := 3) (hi := 9) (memT (memT memH)) (by decide) (by rw [hsl]; decide) (by rw [hsl]; decide) hso) (fun r2 hr2 => br_at (g := g2) (pre := pre2) (post := post2) (mid := mid) (by rw [e9]; exact hr2)) ?_
    refine ⟨_, rfl, ?_⟩
    refine Xs.cons (X1.cut [(S "behind", .int ((pre2.length + lessN mid ((i : Int) + 1) : Nat) : Int)), (S "ahead", .int ((pre2.length + lessN mid (i : Int) : Nat) : Int)), (S "steps", .obj Sx), (S "lengths", .lst (mi (mid.map (·.1)))), (S "shelf", .obj H), (S "ties", .lst (tiesM (TT D'))), (S "rows", .lst (ms (cs.map fun x => St (rowS x (z + 1))))), (S "total", .int tot)] ((Sx, .list (mi (KS mid i).2.2)) :: (H, .list (tks (shelfOf g2 pre2 post2 mid))) :: Ck c (some (.lst (mi (ni (KS mid i).1)))) (some (.lst (ml (KS mid i).2.1))) (some (.int (i : Int))) s.2 none none none t) ?_ ?_)
    · refine X1.if (T1.same hu ?_ (by walk_at "u"))
      refine E1.tup ?_ (by decide) (by walk_at "u")
      walk_at "Y"
      refine Cl.onN (bl0_spec C (hA'.less (by decide)) hml0 hso0) (fun r3 hr3 => bl0_at hr3) ?_
      refine ⟨_, rfl, ?_⟩
      walk_at "Y"
      refine Cl.onN (br0_spec C (hA'.less (by decide)) hml0 hso0) (fun r4 hr4 => br0_at hr4) ?_
      refine ⟨_, rfl, ?_⟩
      walk_at "Y"
      refine E1.tup ?_ (by decide) (by walk_at "u")
      walk_at "Y"
      have e3 : ∀ n : Nat, (n : Int) + 3 = ((pre2.length + n : Nat) : Int) := fun n => by rw [Nat.add_comm]; rfl
      refine ⟨by rw [e3, e3], Nat.le_of_ble_eq_true rfl, trivial, two_no ?_⟩
      walk_at "Y"
      exact ⟨by walk_at "has", rfl⟩
    have hab := lessN_mono mid (x := (i : Int)) (y := (i : Int) + 1) (Int.le_of_lt (Int.lt_succ _))
    have hb6 : lessN mid ((i : Int) + 1) ≤ 6 := hml6 ▸ lessN_le mid _
    refine Xs.cons ?_
    refine X1.for (It1.list hh ?_) (by intro _; walk_at "u")
    walk_at "Y"
    refine ⟨tks (shelfOf g2 pre2 post2 mid), memT memH, by rw [n12]; decide, ?_⟩
    rw [n12]
    have epart : (List.drop ((some ((pre2.length + lessN mid (i : Int) : Nat) : Int)).elim 0 (clipAt 12)) (tks (shelfOf g2 pre2 post2 mid))).take ((some ((pre2.length + lessN mid ((i : Int) + 1) : Nat) : Int)).elim 12 (clipAt 12) - (some ((pre2.length + lessN mid (i : Int) : Nat) : Int)).elim 0 (clipAt 12)) = tks (((mid.drop (lessN mid (i : Int))).take (lessN mid ((i : Int) + 1) - lessN mid (i : Int))).map (up g2)) := by
      show (List.drop (clipAt 12 _) _).take (clipAt 12 _ - clipAt 12 _) = _
      rw [clip_nat (Nat.le_trans (Nat.add_le_add_left (Nat.le_trans hab hb6) _) (show pre2.length + 6 ≤ 12 by decide)), clip_nat (Nat.le_trans (Nat.add_le_add_left hb6 _) (show pre2.length + 6 ≤ 12 by decide))]
      exact shelf_part (hml6 ▸ hb6)
    rw [epart]
    refine ⟨_, rfl, ?_⟩
    have hlenp : ((mid.drop (lessN mid (i : Int))).take (lessN mid ((i : Int) + 1) - lessN mid (i : Int))).length = lessN mid ((i : Int) + 1) - lessN mid (i : Int) := by
      rw [List.length_take, List.length_drop, hml6]; exact Nat.min_eq_left (Nat.sub_le_sub_right hb6 _)
    refine ForR.st (σ := Option MV) (fun _ _ => [(S "steps", .obj Sx), (S "lengths", .lst (mi (mid.map (·.1)))), (S "shelf", .obj H), (S "ties", .lst (tiesM (TT D'))), (S "rows", .lst (ms (cs.map fun x => St (rowS x (z + 1))))), (S "total", .int tot)])
      (fun j s => (Sx, .list (mi (kall 0 (mid.take (lessN mid (i : Int) + j))).2.2)) :: (H, .list (tks (shelfOf g2 pre2 post2 mid))) :: Ck c (some (.lst (mi (ni (kall (0 : Int) (mid.take (lessN mid (i : Int) + j))).1)))) (some (.lst (ml (kall 0 (mid.take (lessN mid (i : Int) + j))).2.1))) (some (.int (i : Int))) s none none none t) (fun _ _ => True) s.2 trivial (by walk_at "has") rfl ?_ ?_
    · rintro j y pa hy -
      have hj : j < lessN mid ((i : Int) + 1) - lessN mid (i : Int) := by
        have := (List.getElem?_eq_some_iff.mp hy).1
        rwa [tks_len, List.length_map, hlenp] at this
      have hj2 : lessN mid (i : Int) + j < lessN mid ((i : Int) + 1) := by rw [Nat.add_comm]; exact Nat.add_lt_of_lt_sub hj
      have hj6 : lessN mid (i : Int) + j < mid.length := by rw [hml6]; exact Nat.lt_of_lt_of_le hj2 hb6
      have hbt := between hlex (Nat.le_add_right _ j) hj2 hj6
      have hy2 : y = tk (up g2 mid[lessN mid (i : Int) + j]) := by
        unfold tks at hy
        rw [List.getElem?_map, List.getElem?_map, List.getElem?_take_of_lt hj, List.getElem?_drop, List.getElem?_eq_getElem hj6] at hy
        exact (Option.some.inj hy).symm
      have hks : kall (0 : Int) (mid.take (lessN mid (i : Int) + (j + 1))) = kstep (kall 0 (mid.take (lessN mid (i : Int) + j))) (i : Int) (mid[lessN mid (i : Int) + j].2 / 4) (mid[lessN mid (i : Int) + j].2 % 4) := by
        rw [← Nat.add_assoc, List.take_add_one, List.getElem?_eq_getElem hj6]
        unfold kall
        rw [List.foldl_append]
        show kstep _ (mid[lessN mid (i : Int) + j]).1 _ _ = _
        rw [hbt]
      have hser : mid[lessN mid (i : Int) + j].2 / 4 < 4 ∧ mid[lessN mid (i : Int) + j].2 % 4 < 4 := by
        obtain ⟨q, hq, e⟩ := mid_of (T := TT D') (hperm.trans (by rw [prAll_4])) (List.getElem_mem hj6)
        rw [e]
        have : ∀ q < 6, sers.getD q 0 / 4 < 4 ∧ sers.getD q 0 % 4 < 4 := by decide
        exact this q hq
      generalize mid[lessN mid (i : Int) + j] = p at hbt hy2 hks hser
      have hK := kall_shape (0 : Int) (mid.take (lessN mid (i : Int) + j))
      have hsteps : (kall (0 : Int) (mid.take (lessN mid (i : Int) + j))).2.2.length ≤ 6 := by
        refine Nat.le_trans (kall_steps _ _) ?_
        rw [List.length_take, hml6]; exact Nat.min_le_right _ _
      rw [show tk (up g2 p) = MV.tup [.int (i : Int), .int ((p.2 / 4 : Nat) : Int), .int ((p.2 % 4 : Nat) : Int)] by rw [← hbt]; rfl] at hy2
      refine kgen y (kall (0 : Int) (mid.take (lessN mid (i : Int) + j))) (kall (0 : Int) (mid.take (lessN mid (i : Int) + (j + 1)))) hy2 hser hks hK hsteps fun u1 u2 hs J st hs1 hs2 k1 k2 k3 hsteps => ?_
      clear hK hks hy2 hser
      dsimp only
      have hg : ∀ u : Nat, u < 4 → (mi (ni hs))[(u : Int).toNat]? = some (.int ((hs.getD u 0 : Nat) : Int)) := fun u hu => by
        rw [Int.toNat_natCast]
        refine mi_get ?_
        unfold ni
        rw [List.getElem?_map, List.getD_eq_getElem?_getD, List.getElem?_eq_getElem (by rw [k1]; exact hu)]; rfl
      refine As.loc (by walk_at "u") (by walk_at "u") ?_
      refine Xs.cons (X1.cut [(S "tie", .tup [.int (i : Int), .int (u1 : Int), .int (u2 : Int)]), (S "steps", .obj Sx), (S "lengths", .lst (mi (mid.map (·.1)))), (S "shelf", .obj H), (S "ties", .lst (tiesM (TT D'))), (S "rows", .lst (ms (cs.map fun x => St (rowS x (z + 1))))), (S "total", .int tot)]
        ((Sx, .list (mi st)) :: (H, .list (tks (shelfOf g2 pre2 post2 mid))) :: Ck c (some (.lst (mi (ni hs)))) (some (.lst (ml J))) (some (.int (i : Int))) pa none none none t) ?_ ?_)
      · walk_at "Y"
        refine ⟨⟨by decide, by decide⟩, _, rfl, ?_⟩
        walk_at "Y"
        refine two_dec (fun g => absurd rfl g) (fun _ => ?_)
        walk_at "Y"
        exact ⟨by walk_at "has", rfl⟩
      refine Xs.cons (X1.cut [(S "tie", .tup [.int (i : Int), .int (u1 : Int), .int (u2 : Int)]), (S "steps", .obj Sx), (S "lengths", .lst (mi (mid.map (·.1)))), (S "shelf", .obj H), (S "ties", .lst (tiesM (TT D'))), (S "rows", .lst (ms (cs.map fun x => St (rowS x (z + 1))))), (S "total", .int tot)]
        ((Sx, .list (mi st)) :: (H, .list (tks (shelfOf g2 pre2 post2 mid))) :: Ck c (some (.lst (mi (ni hs)))) (some (.lst (ml J))) (some (.int (i : Int))) (some (.tup [.int ((hs.getD u1 0 : Nat) : Int), .int ((hs.getD u2 0 : Nat) : Int)])) none none none t) ?_ ?_)
      · refine X1.assignC' (by walk_at "u") (by walk_at "u") (by walk_at "u") ?_ (by walk_at "u")
        refine E1.tup ?_ (by decide) (by walk_at "u")
        walk_at "Y"
        refine ⟨⟨by decide, by decide⟩, _, rfl, ?_⟩
        refine ⟨ix hs1 (by decide), _, hg _ hs1, ?_⟩
        walk_at "Y"
        refine ⟨⟨by decide, by decide⟩, _, rfl, ?_⟩
        refine ⟨ix hs2 (by decide), _, hg _ hs2, ?_⟩
        walk_at "Y"
        exact ⟨_, by walk_at "set", by walk_at "has", rfl⟩
      refine Xs.cons ?_
      walk_at "Y"
      refine ⟨⟨by decide, by decide⟩, _, rfl, ?_⟩
      walk_at "Y"
      refine ⟨⟨by decide, by decide⟩, _, rfl, ?_⟩
      walk_at "Y"
      unfold kstep
      dsimp only
      refine genE (hs.getD u1 0) fun p0 hp0 => ?_
      refine genE (hs.getD u2 0) fun p1 hp1 => ?_
      refine two_dec (fun g => ?_) (fun g => ?_)
      · have g' : ¬ p0 = p1 := fun e => g (by rw [e])
        rw [if_neg g']
        refine Xs.cons (X1.expr (E1.meth meth_append ?_ (by walk_at "u") (by walk_at "u") (by walk_at "u") (by decide)) (by walk_at "u") (by walk_at "u"))
        walk_at "Y"
        refine ⟨.inl ⟨_, memT memH, rfl⟩, ?_⟩
        walk_at "Y"
        refine b_append (.tail .head) (by rw [mi_len]; exact Nat.le_trans hsteps (by decide)) ⟨_, rfl, rfl, ?_⟩
        rw [show mi st ++ [MV.int (i : Int)] = mi (st ++ [(i : Int)]) by unfold mi; rw [List.map_append]; rfl]
        refine Xs.cons (X1.cut [(S "tie", .tup [.int (i : Int), .int (u1 : Int), .int (u2 : Int)]), (S "steps", .obj Sx), (S "lengths", .lst (mi (mid.map (·.1)))), (S "shelf", .obj H), (S "ties", .lst (tiesM (TT D'))), (S "rows", .lst (ms (cs.map fun x => St (rowS x (z + 1))))), (S "total", .int tot)] ((Sx, .list (mi (st ++ [(i : Int)]))) :: (H, .list (tks (shelfOf g2 pre2 post2 mid))) :: Ck c (some (.lst (mi (ni hs)))) (some (.lst (ml (joinM hs p0 p1 (i : Int) J)))) (some (.int (i : Int))) (some (.tup [.int (p0 : Int), .int (p1 : Int)])) none none none t) ?_ ?_)
        · refine X1.assignC' (by walk_at "u") (by walk_at "u") (by walk_at "u") ?_ (by walk_at "u")
          refine E1.comp (cl := [(S "pair", c 5), (S "length", c 4), (S "joined", c 3), (S "heaps", c 2)]) ⟨by walk_at "u", by walk_at "u", by decide⟩ (It1.rng hh ?_) (by intro _; walk_at "u")
          walk_at "Y"
          refine ⟨rfl, ?_⟩
          walk_at "Y"
          refine ⟨4, rfl, by decide, fun c' C' Dc => ?_⟩
          have sp : ∀ u : Nat, u < 4 → (ni hs)[u]? = some ((hs.getD u 0 : Nat) : Int) := fun u hu => by
            unfold ni
            rw [List.getElem?_map, List.getD_eq_getElem?_getD, List.getElem?_eq_getElem (by rw [k1]; exact hu)]; rfl
          refine CompR.rng1 (c := c' 0) (F := fled _ _ _) (ml (joinM hs p0 p1 (i : Int) J)) (by exact gr_len _) (by show 4 ≤ 2 ^ 20; decide) (fun a acc s ha => ?_) (fun s => ?_)
          · refine As.cell' (by walk_at "u") (by walk_at "u") (by walk_at "u") (led' := (Dc, .list acc) :: (c' 0, .cell (some (.int (a : Int)))) :: fled _ _ _) (by walk_at "set") ?_
            show E1 _ _ _ _ _ _ _ _ _
            refine E1.comp (cl := [(S "pair", c 5), (S "one", c' 0), (S "length", c 4), (S "joined", c 3), (S "heaps", c 2)]) ⟨by walk_at "u", by walk_at "u", by decide⟩ (It1.rng hh ?_) (by intro _; walk_at "u")
            walk_at "Y"
            refine ⟨rfl, ?_⟩
            walk_at "Y"
            refine ⟨4, rfl, by decide, fun c2 C2 D2 => ?_⟩
            refine CompR.rng (led := fled _ _ _) (mi ((List.range 4).map fun b => if hs.getD a 0 ≠ hs.getD b 0 ∧ (hs.getD a 0 = p0 ∨ hs.getD a 0 = p1) ∧ (hs.getD b 0 = p0 ∨ hs.getD b 0 = p1) then (i : Int) else (J.getD a []).getD b (i : Int))) (by exact row_len _) (by show 4 ≤ 2 ^ 20; decide) (fun b acc2 hb => ?_) ?_
            · rw [row_cell hb]
              refine As.loc (by walk_at "u") (by walk_at "u") ?_
              have ha2 := ix ha (by decide)
              have hb2 := ix hb (by decide)
              refine E1.ifexp (T1.toB (hs.getD a 0 ≠ hs.getD b 0 ∧ (hs.getD a 0 = p0 ∨ hs.getD a 0 = p1) ∧ (hs.getD b 0 = p0 ∨ hs.getD b 0 = p1)) (T1.and ?_) ?_)
              · walk_at "Y"
                refine ⟨ha2, _, hg a ha, ?_⟩
                walk_at "Y"
                refine ⟨hb2, _, hg b hb, ?_⟩
                walk_at "Y"
                refine two_dec (fun q1 => ?_) (fun q1 => ⟨rfl, (decide_eq_false fun q => q1 fun e => q.1 (Int.ofNat_inj.mp e)).symm⟩)
                refine T1.and (T1.inT ?_)
                walk_at "Y"
                refine ⟨ha2, _, hg a ha, ?_⟩
                walk_at "Y"
                refine ⟨_, [(p0 : Int), (p1 : Int)], rfl, rfl, ?_⟩
                rw [two_in]
                refine two_dec (fun q2 => ?_) (fun q2 => ⟨rfl, (decide_eq_false fun q => q2 q.2.1).symm⟩)
                refine T1.and (T1.inT ?_)
                walk_at "Y"
                refine ⟨hb2, _, hg b hb, ?_⟩
                walk_at "Y"
                refine ⟨_, [(p0 : Int), (p1 : Int)], rfl, rfl, ?_⟩
                rw [two_in]
                refine two_dec (fun q3 => ?_) (fun q3 => ⟨rfl, (decide_eq_false fun q => q3 q.2.2).symm⟩)
                walk_at "Y"
                exact ⟨rfl, (decide_eq_true ⟨fun e => q1 (Int.ofNat_inj.mpr e), q2, q3⟩).symm⟩
              · refine two_dec (fun q => ?_) (fun q => ?_)
                · rw [if_pos q]
                  walk_at "Y"
                  exact ⟨rfl, rfl⟩
                · rw [if_neg q]
                  walk_at "Y"
                  refine ⟨ha2, _, mlI k2 ha, ?_⟩
                  walk_at "Y"
                  refine ⟨hb2, _, mliI k2 k3 (i : Int) ha hb, ?_⟩
                  exact ⟨rfl, rfl⟩
            · refine ⟨_, List.Sublist.refl _, NewL.frz ?_ (by rw [row_len, sz]; decide)⟩
              exact ⟨rfl, gr_row ha⟩
          · refine ⟨_, .cons _ (List.Sublist.refl _), NewL.frz ?_ (by rw [show (ml (joinM hs p0 p1 (i : Int) J)).length = 4 from gr_len _, sz]; decide)⟩
            exact ⟨_, by walk_at "set", by walk_at "has", rfl⟩
        refine Xs.cons (X1.cut [(S "tie", .tup [.int (i : Int), .int (u1 : Int), .int (u2 : Int)]), (S "steps", .obj Sx), (S "lengths", .lst (mi (mid.map (·.1)))), (S "shelf", .obj H), (S "ties", .lst (tiesM (TT D'))), (S "rows", .lst (ms (cs.map fun x => St (rowS x (z + 1))))), (S "total", .int tot)] ((Sx, .list (mi (st ++ [(i : Int)]))) :: (H, .list (tks (shelfOf g2 pre2 post2 mid))) :: Ck c (some (.lst (mi (ni (hs.map fun x => if x = p0 then p1 else x))))) (some (.lst (ml (joinM hs p0 p1 (i : Int) J)))) (some (.int (i : Int))) (some (.tup [.int (p0 : Int), .int (p1 : Int)])) none none none t) ?_ ?_)
        · refine X1.assignC' (by walk_at "u") (by walk_at "u") (by walk_at "u") ?_ (by walk_at "u")
          refine E1.comp (cl := [(S "pair", c 5)]) ⟨by walk_at "u", by walk_at "u", by decide⟩ (It1.list hh ?_) (by intro _; walk_at "u")
          walk_at "Y"
          refine ⟨_, rfl, fun c' C' Dc => ?_⟩
          refine CompR.to (led := fled _ _ _) (mi (ni (hs.map fun x => if x = p0 then p1 else x))) (by simp [mi, ni]) (by simp [mi, ni, k1]) (fun b y acc2 hy => ?_) ?_
          · refine Exists.elim (mini_get hy) fun x q => As.eq q.2 ?_
            have hx := q.1
            have ex : (mi (ni (hs.map fun x => if x = p0 then p1 else x)))[b]? = some (.int (((if x = p0 then p1 else x : Nat)) : Int)) := mi_get (by unfold ni; rw [List.getElem?_map, List.getElem?_map, hx]; rfl)
            rw [ex]
            refine As.loc (by walk_at "u") (by walk_at "u") ?_
            walk_at "Y"
            refine ⟨⟨by decide, by decide⟩, _, rfl, ?_⟩
            walk_at "Y"
            refine two_dec (fun q => ?_) (fun q => ?_)
            · rw [if_pos (Int.ofNat_inj.mp q)]
              walk_at "Y"
              refine ⟨⟨by decide, by decide⟩, _, rfl, ?_⟩
              exact ⟨rfl, rfl⟩
            · rw [if_neg (fun e => q (Int.ofNat_inj.mpr e))]
              walk_at "Y"
              exact ⟨rfl, rfl⟩
          · refine ⟨_, List.Sublist.refl _, NewL.frz ?_ (by simp [mi, ni, k1, sz])⟩
            exact ⟨_, by walk_at "set", by walk_at "has", rfl⟩
        walk_at "Y"
        exact ⟨_, trivial, by walk_at "has", rfl⟩
      · rw [if_pos (Int.ofNat_inj.mp (Classical.not_not.mp g))]
        walk_at "Y"
        exact ⟨_, trivial, by walk_at "has", rfl⟩
    · intro m s _ hm
      rw [tks_len, List.length_map, hlenp, Nat.add_sub_of_le hab]
      refine Xs.nil ⟨(some (.int (i : Int)), s), trivial, fun x y e => hm x y ?_, rfl⟩
      exact (by walk_at "has" : Has _ _) x y e
  intro m s _ hm
  have h11 : lessN mid ((11 : Nat) : Int) = 6 := by
    unfold lessN
    have e : (mid.map (·.1)).length = 6 := by rw [List.length_map, hml6]
    refine Eq.trans (List.countP_eq_length.mpr fun y hy => ?_) e
    obtain ⟨p, hp, rfl⟩ := List.mem_map.mp hy
    exact decide_eq_true (Int.lt_of_le_of_lt (hmem p hp).2 (by decide))
  have hks : KS mid ((11 : Nat) : Int) = kall 0 mid := by
    unfold KS
    rw [h11, ← hml6, List.take_length]
  rw [hks]
  have hKr := kruskal (T := TT D') hlex (hperm.trans (by rw [prAll_4])) (fun i hi => (hT6 i hi).1)
  have hJ := hKr.1
  refine Exists.elim hKr.2 fun a3 q => Exists.elim q fun b3 q => Exists.elim q fun c3 q => ?_
  have hst := q.1
  have hin := q.2.1
  have hleast := q.2.2
  clear q hKr
  refine Xs.has hm ?_
  clear hm
  refine Exists.elim (tt_nat hz (fun i => getD_lt hcb i) hD') fun tn q => ?_
  have htn := q.1
  have ht10 := q.2.1
  have htz := q.2.2
  rw [hst, hJ]
  clear hst hJ hks h11 hso hso0 hmem hperm hlex
  revert hleast
  revert hin
  revert htn
  refine gen (TT D') fun Tq => ?_
  intro htn hin hleast
  have hsq := sq_len Tq
  have hws := wide_shape (mn := min) (mx := max) hsq
  have hsqn := sq_le ht10
  rw [← htn] at hsqn
  refine Xs.weak (m' := [(S "steps", .obj Sx), (S "ties", .lst (tiesM Tq)), (S "total", .int tot)]) (led' := (Sx, .list (mi [a3, b3, c3])) :: Cw c (some (.lst (ml (wideM min max 0 (sqM Tq))))) none none none t) (by walk_at "has") (.cons_cons _ (.cons _ (.cons_cons _ (.cons_cons _ (.cons_cons _ (.cons _ (.cons _ (.cons_cons _ (.cons _ (List.Sublist.refl _)))))))))) ?_
  refine Xs.frz (x := S "steps") (a := Sx) (by walk_at "u") .head ?_
  -- far
  refine Xs.cons (X1.cut [(S "far", .lst (ml (sqM Tq))), (S "steps", .lst (mi [a3, b3, c3])), (S "ties", .lst (tiesM Tq)), (S "total", .int tot)] (Cw c (some (.lst (ml (wideM min max 0 (sqM Tq))))) none none none t) ?_ ?_)
  · skip
    walk_at "Y"
    refine Cl.fn (square_spec C (hA'.less (by decide))) ?_
    walk_at "Y"
    exact ⟨by walk_at "has", rfl⟩
  -- width
  have ew := (wd2_ok tot).1
  have hn5 := (wd2_ok tot).2.1
  have hn944 := (wd2_ok tot).2.2
  refine Xs.cons (X1.cut [(S "far", .lst (ml (sqM Tq))), (S "steps", .lst (mi [a3, b3, c3])), (S "ties", .lst (tiesM Tq)), (S "total", .int tot)] (Cw c (some (.lst (ml (wideM min max 0 (sqM Tq))))) (some (.int ((wdOf2 tot : Nat) : Int))) none none t) ?_ ?_)
  · skip
    refine X1.assignC' (by walk_at "u") (by walk_at "u") (by walk_at "u") ?_ (by walk_at "u")
    walk_at "Y"
    refine BinQ.fdivI ?_ (by decide) (PyProof.noPylong_small (by decide))
    walk_at "Y"
    refine BinQ.modI ?_ (by decide)
    walk_at "Y"
    refine BinQ.fdivI ?_ (by decide) (PyProof.noPylong_small (by decide))
    walk_at "Y"
    refine BinQ.modI ?_ (by decide)
    walk_at "Y"
    refine b_int_bool ⟨_, rfl, ?_⟩
    refine BinQ.mulI ?_ (IntMulOk.of_left (by decide))
    walk_at "Y"
    rw [ew]
    exact ⟨_, by walk_at "set", by walk_at "has", rfl⟩
  revert hn944
  revert hn5
  refine gen (wdOf2 tot) fun n => ?_
  intro hn5 hn944
  clear ew
  have hN := num_ok hn5 hn944 ht10 htz
  -- power
  refine Xs.cons (X1.cut [(S "power", .lst (ml (powM (xp n tn)))), (S "far", .lst (ml (sqM Tq))), (S "steps", .lst (mi [a3, b3, c3])), (S "ties", .lst (tiesM Tq)), (S "total", .int tot)] (Cw c (some (.lst (ml (wideM min max 0 (sqM Tq))))) (some (.int (n : Int))) none none t) ?_ ?_)
  · skip
    have epw : powM (xp n tn) = (sqM Tq).map (List.map (pw1 n)) := by rw [htn, pwM_eq]
    rw [epw]
    refine X1.assignComp (cl := [(S "width", c 6)]) ⟨by walk_at "u", by walk_at "u", by decide⟩ (by walk_at "u") (by walk_at "u") (It1.list hh ?_) (by intro _; walk_at "u") (by walk_at "u")
    walk_at "Y"
    refine ⟨_, rfl, fun c' C' Dc => ?_⟩
    have l4 : (ml (sqM Tq)).length = 4 := rfl
    refine CompR.to (led := fled _ _ _) (ml ((sqM Tq).map (List.map (pw1 n)))) (by exact rfl) (by rw [l4]; decide) (fun j y acc hy => ?_) ?_
    · refine Exists.elim (ml_get hy) fun r q => As.eq q.2 ?_
      have hr := q.1
      have hrm := List.mem_of_getElem? hr
      have hr4 := hsq.2 r hrm
      refine As.loc (by walk_at "u") (by walk_at "u") ?_
      refine E1.comp (cl := [(S "width", c 6)]) ⟨by walk_at "u", by walk_at "u", by decide⟩ (It1.list hh ?_) (by intro _; walk_at "u")
      walk_at "Y"
      refine ⟨_, rfl, fun c2 C2 D2 => ?_⟩
      refine CompR.to (led := fled _ _ _) (mi (r.map (pw1 n))) (by rw [mi_len, mi_len, List.length_map]) (by rw [mi_len, hr4]; decide) (fun b y acc2 hy => ?_) ?_
      · refine Exists.elim (mi_at hy) fun x q => Exists.elim (hsqn r hrm x (List.mem_of_getElem? q.1)) fun k q2 => As.eq (q.2.trans (congrArg MV.int q2.2)) ?_
        have hk := q2.1
        have hx := q.1.trans (congrArg some q2.2)
        refine As.loc (by walk_at "u") (by walk_at "u") ?_
        walk_at "Y"
        refine BinQ.mulI ?_ (IntMulOk.of_left (Nat.le_trans (bits_le (m := 10) (Int.natCast_nonneg n) (ncl hn944 (by decide))) (by decide)))
        refine BinQ.powI ?_ ⟨?_, ?_⟩
        · exact ⟨rfl, mi_get (by rw [List.getElem?_map, hx]; rfl)⟩
        · exact Int.natCast_nonneg (n * k)
        · exact mulcl (b := n * k) (show Builtin.Int.intBits 2 ≤ 2 by decide) (Nat.mul_le_mul hn944 hk) (by decide)
      · refine ⟨_, List.Sublist.refl _, NewL.frz ?_ (by rw [mi_len, List.length_map, hr4, sz]; decide)⟩
        exact ⟨rfl, ml_of (by rw [List.getElem?_map, hr]; rfl)⟩
    · refine ⟨_, List.Sublist.refl _, NewL.frz ?_ (by rw [sz]; exact (by decide : 4 ≤ 2 ^ 24))⟩
      exact ⟨by walk_at "has", rfl⟩
  refine Exists.elim (ex_max (l := netsN tn) (by unfold netsN treesL; exact List.cons_ne_nil _ _)) fun M q => ?_
  have hM := q.1
  have hMle := q.2
  have hk1 := (net_digs hn5 hM hMle).2.1
  have hdg := (net_digs hn5 hM hMle).2.2
  clear q
  have hM30 := netsN_le ht10 M hM
  have hnets := netsN_cast tn
  rw [← htn] at hnets
  rw [← hnets] at hdg
  have hMn : (M : Int) ∈ net0 Tq 6 := by rw [hnets]; exact List.mem_map.mpr ⟨M, hM, rfl⟩
  have hnle : ∀ x ∈ net0 Tq 6, 0 ≤ x ∧ x ≤ M := fun x hx => by
    rw [hnets] at hx
    obtain ⟨k, hk, rfl⟩ := List.mem_map.mp hx
    exact ⟨Int.natCast_nonneg _, Int.ofNat_le.mpr (hMle k hk)⟩
  clear htn ht10 htz hsqn hM hMle hnets
  revert hN
  refine gen (pivW n tn) fun Pv => ?_
  intro hN
  revert hdg
  revert hk1
  revert hN
  refine gen (netW n tn) fun W => ?_
  intro hN hk1 hdg
  revert hN
  refine gen (xp n tn) fun X => ?_
  intro hN
  have bP := (parts_bits hN).1
  have bT := (parts_bits hN).2.1
  have bU := (parts_bits hN).2.2.1
  have bS := (parts_bits hN).2.2.2
  have hPn : Pv ≠ 0 := Int.ne_of_gt hN.pos
  -- pivot
  refine Xs.cons (X1.cut [(S "pivot", .int Pv), (S "power", .lst (ml (powM X))), (S "far", .lst (ml (sqM Tq))), (S "steps", .lst (mi [a3, b3, c3])), (S "ties", .lst (tiesM Tq)), (S "total", .int tot)] (Cw c (some (.lst (ml (wideM min max 0 (sqM Tq))))) (some (.int (n : Int))) none none t) ?_ ?_)
  · skip
    walk_at "Y"
    refine ⟨⟨by decide, by decide⟩, _, rfl, ?_⟩
    walk_at "Y"
    refine ⟨⟨by decide, by decide⟩, _, rfl, ?_⟩
    walk_at "Y"
    refine ⟨⟨by decide, by decide⟩, _, rfl, ?_⟩
    walk_at "Y"
    refine ⟨⟨by decide, by decide⟩, _, rfl, ?_⟩
    walk_at "Y"
    refine ⟨⟨by decide, by decide⟩, _, rfl, ?_⟩
    walk_at "Y"
    refine ⟨⟨by decide, by decide⟩, _, rfl, ?_⟩
    walk_at "Y"
    rw [hN.piv]
    exact ⟨by walk_at "has", rfl⟩
  -- upper
  refine Xs.cons (X1.cut [(S "upper", .int (Pv * (X 1 + X 2 + X 5) - X 2 ^ 2)), (S "pivot", .int (Pv)), (S "power", .lst (ml (powM X))), (S "far", .lst (ml (sqM Tq))), (S "steps", .lst (mi [a3, b3, c3])), (S "ties", .lst (tiesM Tq)), (S "total", .int tot)] (Cw c (some (.lst (ml (wideM min max 0 (sqM Tq))))) (some (.int (n : Int))) none none t) ?_ ?_)
  · skip
    walk_at "Y"
    refine ⟨⟨by decide, by decide⟩, _, rfl, ?_⟩
    walk_at "Y"
    refine ⟨⟨by decide, by decide⟩, _, rfl, ?_⟩
    walk_at "Y"
    refine ⟨⟨by decide, by decide⟩, _, rfl, ?_⟩
    walk_at "Y"
    refine ⟨⟨by decide, by decide⟩, _, rfl, ?_⟩
    walk_at "Y"
    refine ⟨⟨by decide, by decide⟩, _, rfl, ?_⟩
    walk_at "Y"
    refine ⟨⟨by decide, by decide⟩, _, rfl, ?_⟩
    walk_at "Y"
    refine BinQ.mulI ?_ (IntMulOk.of_bits (Nat.le_trans bP (by decide)) (Nat.le_trans (bT 1 2 5) (by decide)))
    walk_at "Y"
    refine ⟨⟨by decide, by decide⟩, _, rfl, ?_⟩
    walk_at "Y"
    refine ⟨⟨by decide, by decide⟩, _, rfl, ?_⟩
    walk_at "Y"
    refine BinQ.powI ?_ ⟨by decide, mulcl (b := 2) (hN.bX 2) (Nat.le_refl 2) (by decide)⟩
    walk_at "Y"
    exact ⟨by walk_at "has", rfl⟩
  -- lower
  refine Xs.cons (X1.cut [(S "lower", .int (Pv * (X 3 + X 4 + X 5) - X 4 ^ 2)), (S "upper", .int (Pv * (X 1 + X 2 + X 5) - X 2 ^ 2)), (S "pivot", .int (Pv)), (S "power", .lst (ml (powM X))), (S "far", .lst (ml (sqM Tq))), (S "steps", .lst (mi [a3, b3, c3])), (S "ties", .lst (tiesM Tq)), (S "total", .int tot)] (Cw c (some (.lst (ml (wideM min max 0 (sqM Tq))))) (some (.int (n : Int))) none none t) ?_ ?_)
  · skip
    walk_at "Y"
    refine ⟨⟨by decide, by decide⟩, _, rfl, ?_⟩
    walk_at "Y"
    refine ⟨⟨by decide, by decide⟩, _, rfl, ?_⟩
    walk_at "Y"
    refine ⟨⟨by decide, by decide⟩, _, rfl, ?_⟩
    walk_at "Y"
    refine ⟨⟨by decide, by decide⟩, _, rfl, ?_⟩
    walk_at "Y"
    refine ⟨⟨by decide, by decide⟩, _, rfl, ?_⟩
    walk_at "Y"
    refine ⟨⟨by decide, by decide⟩, _, rfl, ?_⟩
    walk_at "Y"
    refine BinQ.mulI ?_ (IntMulOk.of_bits (Nat.le_trans bP (by decide)) (Nat.le_trans (bT 3 4 5) (by decide)))
    walk_at "Y"
    refine ⟨⟨by decide, by decide⟩, _, rfl, ?_⟩
    walk_at "Y"
    refine ⟨⟨by decide, by decide⟩, _, rfl, ?_⟩
    walk_at "Y"
    refine BinQ.powI ?_ ⟨by decide, mulcl (b := 2) (hN.bX 4) (Nat.le_refl 2) (by decide)⟩
    walk_at "Y"
    exact ⟨by walk_at "has", rfl⟩
  -- side
  refine Xs.cons (X1.cut [(S "side", .int (Pv * X 5 + X 2 * X 4)), (S "lower", .int (Pv * (X 3 + X 4 + X 5) - X 4 ^ 2)), (S "upper", .int (Pv * (X 1 + X 2 + X 5) - X 2 ^ 2)), (S "pivot", .int (Pv)), (S "power", .lst (ml (powM X))), (S "far", .lst (ml (sqM Tq))), (S "steps", .lst (mi [a3, b3, c3])), (S "ties", .lst (tiesM Tq)), (S "total", .int tot)] (Cw c (some (.lst (ml (wideM min max 0 (sqM Tq))))) (some (.int (n : Int))) none none t) ?_ ?_)
  · skip
    walk_at "Y"
    refine ⟨⟨by decide, by decide⟩, _, rfl, ?_⟩
    walk_at "Y"
    refine ⟨⟨by decide, by decide⟩, _, rfl, ?_⟩
    walk_at "Y"
    refine BinQ.mulI ?_ (IntMulOk.of_bits (Nat.le_trans bP (by decide)) (Nat.le_trans (hN.bX 5) (by decide)))
    walk_at "Y"
    refine ⟨⟨by decide, by decide⟩, _, rfl, ?_⟩
    walk_at "Y"
    refine ⟨⟨by decide, by decide⟩, _, rfl, ?_⟩
    walk_at "Y"
    refine ⟨⟨by decide, by decide⟩, _, rfl, ?_⟩
    walk_at "Y"
    refine ⟨⟨by decide, by decide⟩, _, rfl, ?_⟩
    walk_at "Y"
    refine BinQ.mulI ?_ (IntMulOk.of_bits (Nat.le_trans (hN.bX 2) (by decide)) (Nat.le_trans (hN.bX 4) (by decide)))
    walk_at "Y"
    exact ⟨by walk_at "has", rfl⟩
  -- sign
  refine Xs.cons (X1.cut [(S "sign", .int (sgOf2 tot)), (S "side", .int (Pv * X 5 + X 2 * X 4)), (S "lower", .int (Pv * (X 3 + X 4 + X 5) - X 4 ^ 2)), (S "upper", .int (Pv * (X 1 + X 2 + X 5) - X 2 ^ 2)), (S "pivot", .int (Pv)), (S "far", .lst (ml (sqM Tq))), (S "steps", .lst (mi [a3, b3, c3])), (S "ties", .lst (tiesM Tq)), (S "total", .int tot)] (Cw c (some (.lst (ml (wideM min max 0 (sqM Tq))))) (some (.int (n : Int))) none none t) ?_ ?_)
  · skip
    walk_at "Y"
    refine BinQ.fdivI ?_ (by decide) (PyProof.noPylong_small (by decide))
    walk_at "Y"
    refine BinQ.modI ?_ (by decide)
    refine BinQ.mulI ?_ (IntMulOk.of_left (by decide))
    walk_at "Y"
    rw [show 1 - 2 * (tot.fdiv 2).fmod 2 = sgOf2 tot from rfl]
    exact ⟨by walk_at "has", rfl⟩
  have hsg := sg2_ok tot
  revert hsg
  refine gen (sgOf2 tot) fun sg => ?_
  intro hsg
  -- top
  refine Xs.cons (X1.cut [(S "top", .int (tot.fmod Pv)), (S "sign", .int (sg)), (S "side", .int (Pv * X 5 + X 2 * X 4)), (S "lower", .int (Pv * (X 3 + X 4 + X 5) - X 4 ^ 2)), (S "upper", .int (Pv * (X 1 + X 2 + X 5) - X 2 ^ 2)), (S "pivot", .int (Pv)), (S "far", .lst (ml (sqM Tq))), (S "steps", .lst (mi [a3, b3, c3])), (S "ties", .lst (tiesM Tq)), (S "total", .int tot)] (Cw c (some (.lst (ml (wideM min max 0 (sqM Tq))))) (some (.int (n : Int))) none none t) ?_ ?_)
  · skip
    walk_at "Y"
    refine BinQ.modI ?_ hPn
    exact ⟨by walk_at "has", rfl⟩
  have htop0 : 0 ≤ tot.fmod Pv := by rw [Int.fmod_eq_emod_of_nonneg _ (Int.le_of_lt hN.pos)]; exact Int.emod_nonneg _ hPn
  have htopP : tot.fmod Pv < Pv := by rw [Int.fmod_eq_emod_of_nonneg _ (Int.le_of_lt hN.pos)]; exact Int.emod_lt_of_pos _ hN.pos
  revert htopP
  revert htop0
  refine gen (tot.fmod Pv) fun tp => ?_
  intro htop0 htopP
  have bU1 := bU 1 2 5 2
  have bU2 := bU 3 4 5 4
  have bS1 := bS 5 2 4
  have hwh := hN.whole
  have hpos := hN.pos
  have hdv := net_div (N := W) hsg hpos htop0 htopP
  have hdo := div_ok hN hsg htop0 htopP
  have bW := hN.bW
  have hW0 := hN.nn
  clear hN bT bU bS
  revert hwh
  revert bU1
  refine gen (Pv * (X 1 + X 2 + X 5) - X 2 ^ 2) fun Up => ?_
  intro bU1 hwh
  revert hwh
  revert bU2
  refine gen (Pv * (X 3 + X 4 + X 5) - X 4 ^ 2) fun Lw => ?_
  intro bU2 hwh
  revert hwh
  revert bS1
  refine gen (Pv * X 5 + X 2 * X 4) fun Sd => ?_
  intro bS1 hwh
  have bsg : Builtin.Int.intBits sg ≤ 64 := by rcases hsg with e | e <;> rw [e] <;> decide
  have bsg' : Builtin.Int.intBits (-sg) ≤ 64 := by rcases hsg with e | e <;> rw [e] <;> decide
  have hsP : sg * Pv ≠ 0 := fun e => by
    rcases hsg with q | q
    · rw [q, Int.one_mul] at e; exact hPn e
    · rw [q, Int.neg_mul, Int.one_mul] at e; exact hPn (Int.neg_eq_zero.mp e)
  -- net, rest
  refine Xs.cons (X1.assignT ?_)
  walk_at "Y"
  refine BinQ.mulI ?_ (IntMulOk.of_bits (Nat.le_trans bU1 (by decide)) (Nat.le_trans bU2 (by decide)))
  walk_at "Y"
  refine BinQ.powI ?_ ⟨by decide, mulcl (b := 2) bS1 (Nat.le_refl 2) (by decide)⟩
  walk_at "Y"
  refine BinQ.mulI ?_ (IntMulOk.of_left bsg)
  walk_at "Y"
  refine BinQ.mulI ?_ (IntMulOk.of_left bsg)
  walk_at "Y"
  rw [show Up * Lw - Sd ^ (2 : Int).toNat = W * Pv from hwh]
  refine Cl.onT (idm_spec C D (pre := _ :: Cw c (some (.lst (ml (wideM min max 0 (sqM Tq))))) (some (.int (n : Int))) none none []) hT hsP hdo.2.1.1 hdo.2.1.2 (hA'.less (by decide))) fun t1 hT1 => ?_
  refine ⟨Cw c (some (.lst (ml (wideM min max 0 (sqM Tq))))) (some (.int (n : Int))) none none t1, rfl, ?_⟩
  rw [hdv.1.1, hdv.1.2]
  refine As.tup hh ?_ rfl (by walk_at "u")
  refine As.loc (by walk_at "u") (by walk_at "u") (As.loc (by walk_at "u") (by walk_at "u") ?_)
  refine Xs.cons (X1.if ?_)
  walk_at "Y"
  refine BinQ.mulI ?_ (IntMulOk.of_left bsg)
  walk_at "Y"
  refine two_dec (fun g => absurd rfl g) (fun _ => ?_)
  refine Xs.nil ?_
  -- the other way round
  refine Xs.cons (X1.if (T1.same hu ?_ (by walk_at "u")))
  walk_at "Y"
  refine BinQ.mulI ?_ (IntMulOk.of_bits (Nat.le_trans bW (by decide)) (Nat.le_trans bP (by decide)))
  walk_at "Y"
  refine BinQ.mulI ?_ (IntMulOk.of_left bsg')
  walk_at "Y"
  refine BinQ.mulI ?_ (IntMulOk.of_left bsg)
  walk_at "Y"
  refine Cl.onT (idm_spec C D (pre := _ :: Cw c (some (.lst (ml (wideM min max 0 (sqM Tq))))) (some (.int (n : Int))) none none []) hT1 hsP hdo.2.2.1 hdo.2.2.2 (hA'.less (by decide))) fun t2 hT2 => ?_
  refine ⟨Cw c (some (.lst (ml (wideM min max 0 (sqM Tq))))) (some (.int (n : Int))) none none t2, rfl, ?_⟩
  rw [hdv.2.1, hdv.2.2]
  refine E1.tup ?_ (by decide) (by walk_at "u")
  walk_at "Y"
  refine b_int_bool ⟨_, rfl, ?_⟩
  walk_at "Y"
  refine BinQ.modI ?_ hPn
  refine BinQ.mulI ?_ (IntMulOk.of_left bsg)
  walk_at "Y"
  refine ⟨rfl, Nat.le_of_ble_eq_true rfl, trivial, two_no ?_⟩
  refine Xs.nil ?_
  -- nets
  refine Xs.cons (X1.assign (by walk_at "u") (by walk_at "u") ?_ (by walk_at "u"))
  walk_at "Y"
  refine Cl.fn (nets_spec C (hA'.less (by decide))) ?_
  -- counted
  refine Xs.cons (X1.if (T1.same hu ?_ (by walk_at "u")))
  walk_at "Y"
  refine Cl.onT (D.i2d A' (_ :: Cw c (some (.lst (ml (wideM min max 0 (sqM Tq))))) (some (.int (n : Int))) none none []) t2 W n (M + 1) hT2 (Nat.le_trans (by decide) hn5) (Nat.le_trans hn944 (by decide)) hW0 hk1.symm (Nat.le_trans (Nat.mul_le_mul hn944 (Nat.succ_le_succ hM30)) (by decide)) (hA'.less (Nat.le_trans (Nat.add_le_add_right (Nat.succ_le_succ hM30) 4) (by decide)))) fun t3 hT3 => ?_
  refine ⟨Cw c (some (.lst (ml (wideM min max 0 (sqM Tq))))) (some (.int (n : Int))) none none t3, rfl, ?_⟩
  rw [hdg]
  walk_at "Y"
  refine Cl.fn (counts_spec C (hA'.less (by decide)) hMn hnle (Nat.le_trans hM30 (by decide))) ?_
  refine ⟨rfl, Nat.le_trans (Nat.le_of_eq (congrArg Nat.succ (deps_mi _))) (by decide), trivial, two_no ?_⟩
  refine Xs.nil ?_
  -- the steps
  refine Xs.cons (X1.if ?_)
  walk_at "Y"
  refine f_lenL (show 3 ≤ 2 ^ 20 by decide) ?_
  walk_at "Y"
  refine two_dec (fun g => absurd rfl g) (fun _ => ?_)
  walk_at "Y"
  refine b_sum hh ⟨_, rfl, ?_⟩
  walk_at "Y"
  refine b_minL hh (List.ne_nil_of_mem hMn) fun m h1 h2 => ⟨_, rfl, ?_⟩
  rw [net_min hin hleast h1 h2]
  walk_at "Y"
  refine two_dec (fun g => absurd rfl g) (fun _ => ?_)
  refine T1.or0 (two_no ?_)
  refine Xs.nil ?_
  -- wide
  refine Xs.weak (m' := [(S "far", .lst (ml (sqM Tq)))]) (led' := Cw c (some (.lst (ml (wideM min max 0 (sqM Tq))))) (some (.int (n : Int))) none none t3) (by walk_at "has") (List.Sublist.refl _) ?_
  refine Xs.cons (X1.cut [] (Cw c (some (.lst (ml (wideM min max 0 (sqM Tq))))) (some (.int (n : Int))) (some (.lst (ml (sqM Tq)))) none t3) ?_ ?_)
  · refine X1.assignC' (by walk_at "u") (by walk_at "u") (by walk_at "u") ?_ (by walk_at "u")
    walk_at "Y"
    exact ⟨_, by walk_at "set", by walk_at "has", rfl⟩
  refine Xs.cons (X1.for (It1.rng hh ?_) (by intro _; walk_at "u"))
  walk_at "Y"
  refine ⟨rfl, ?_⟩
  walk_at "Y"
  refine ⟨4, rfl, by decide, ?_⟩
  refine ForR.rng (σ := Option MV) (fun _ _ => []) (fun k s => Cw c (some (.lst (ml (wideM min max 0 (sqM Tq))))) (some (.int (n : Int))) (some (.lst (ml ((List.range k).foldl (relax min max 0) (sqM Tq))))) s t3) (fun _ _ => True) none trivial (by walk_at "has") rfl ?_ ?_
  · skip
    rintro k s hk4 -
    have w4 := (hws (List.range k)).1
    have wr4 := (hws (List.range k)).2
    have hks : (List.range (k + 1)).foldl (relax min max 0) (sqM Tq) = relax min max 0 ((List.range k).foldl (relax min max 0) (sqM Tq)) k := by rw [List.range_succ, List.foldl_append]; rfl
    rw [hks]
    clear hks
    revert wr4
    revert w4
    refine gen ((List.range k).foldl (relax min max 0) (sqM Tq)) fun Wd => ?_
    intro w4 wr4
    refine As.cell' (by walk_at "u") (by walk_at "u") (by walk_at "u") (led' := Cw c (some (.lst (ml (wideM min max 0 (sqM Tq))))) (some (.int (n : Int))) (some (.lst (ml Wd))) (some (.int (k : Int))) t3) (by walk_at "set") ?_
    refine Xs.cons ?_
    refine X1.assignC' (by walk_at "u") (by walk_at "u") (by walk_at "u") ?_ (by walk_at "u")
    refine E1.comp (cl := [(S "wide", c 7), (S "stop", c 8)]) ⟨by walk_at "u", by walk_at "u", by decide⟩ (It1.rng hh ?_) (by intro _; walk_at "u")
    walk_at "Y"
    refine ⟨rfl, ?_⟩
    walk_at "Y"
    refine ⟨4, rfl, by decide, fun c' C' Dc => ?_⟩
    have hk2 := ix hk4 (by decide)
    refine CompR.rng1 (c := c' 0) (F := fled _ _ _) (ml (relax min max 0 Wd k)) (by exact gr_len _) (by show 4 ≤ 2 ^ 20; decide) (fun a acc s ha => ?_) (fun s => ?_)
    · refine As.cell' (by walk_at "u") (by walk_at "u") (by walk_at "u") (led' := (Dc, .list acc) :: (c' 0, .cell (some (.int (a : Int)))) :: fled _ _ _) (by walk_at "set") ?_
      show E1 _ _ _ _ _ _ _ _ _
      refine E1.comp (cl := [(S "wide", c 7), (S "stop", c 8), (S "one", c' 0)]) ⟨by walk_at "u", by walk_at "u", by decide⟩ (It1.rng hh ?_) (by intro _; walk_at "u")
      walk_at "Y"
      refine ⟨rfl, ?_⟩
      walk_at "Y"
      refine ⟨4, rfl, by decide, fun c2 C2 D2 => ?_⟩
      refine CompR.rng (led := fled _ _ _) (mi ((List.range 4).map fun b => min ((Wd.getD a []).getD b 0) (max ((Wd.getD a []).getD k 0) ((Wd.getD k []).getD b 0)))) (by exact row_len _) (by show 4 ≤ 2 ^ 20; decide) (fun b acc2 hb => ?_) ?_
      · rw [row_cell hb]
        refine As.loc (by walk_at "u") (by walk_at "u") ?_
        have ha2 := ix ha (by decide)
        have hb2 := ix hb (by decide)
        walk_at "Y"
        refine ⟨ha2, _, mlI w4 ha, ?_⟩
        walk_at "Y"
        refine ⟨hb2, _, mliI w4 wr4 0 ha hb, ?_⟩
        walk_at "Y"
        refine ⟨ha2, _, mlI w4 ha, ?_⟩
        walk_at "Y"
        refine ⟨hk2, _, mliI w4 wr4 0 ha hk4, ?_⟩
        walk_at "Y"
        refine ⟨hk2, _, mlI w4 hk4, ?_⟩
        walk_at "Y"
        refine ⟨hb2, _, mliI w4 wr4 0 hk4 hb, ?_⟩
        walk_at "Y"
        refine f_max2 hh ?_
        walk_at "Y"
        refine f_min2 hh ?_
        exact ⟨rfl, rfl⟩
      · refine ⟨_, List.Sublist.refl _, NewL.frz ?_ (by rw [row_len, sz]; decide)⟩
        exact ⟨rfl, gr_row ha⟩
    · refine ⟨_, .cons _ (List.Sublist.refl _), NewL.frz ?_ (by rw [show (ml (relax min max 0 Wd k)).length = 4 from gr_len _, sz]; decide)⟩
      refine ⟨Cw c (some (.lst (ml (wideM min max 0 (sqM Tq))))) (some (.int (n : Int))) (some (.lst (ml (relax min max 0 Wd k)))) (some (.int (k : Int))) t3, by walk_at "set", ?_⟩
      walk_at "Y"
      exact ⟨_, trivial, by walk_at "has", rfl⟩
  intro m s _ hm
  refine Xs.has hm ?_
  refine Xs.cons (X1.ret (E1.same hu ?_ (by walk_at "u")))
  walk_at "Y"
  exact ⟨rfl, Nat.le_trans (Nat.succ_le_succ (deps_ml _)) (by decide), trivial, t3, ((((List.Sublist.refl t3).cons _).cons _).cons _).cons _, hT3, rfl⟩
end Mine

end

end

set_option maxRecDepth 100000 in
theorem PySem.Challenge.cw_tv0045_02_holds : PySem.Challenge.rw_tv0045_02.Holds :=
  Mine.top_of Mine.law_code
