import PyProof.Rows.All
import Wide.All
import OpenK.AllK
import Wide.FinOn
import PySem.Challenge.RW_mr0071_01
open PySem PySem.W PyProof.Rows
set_option Elab.async false
set_option linter.unusedVariables false
set_option maxRecDepth 100000
set_option maxHeartbeats 8000000
open_top Mine.hd for PySem.Challenge.rw_mr0071_01
namespace Mine

/-! heaps that only grow; the frames of the call's own (they are not in Bs) may get their slots -/
abbrev NotDict (o : Obj) : Prop := ∀ es n, o.data ≠ .dict es n
def Sim (Bs : Heap) (a : Addr) (o o' : Obj) : Prop := o' = o ∨ (Bs.get? a = none ∧ (∃ es n, o.data = .dict es n) ∧ ∃ sl, o' = { o with slots := sl })
/-- all but Z is kept -/
def Kb (Bs : Heap) (Z : Addr → Prop) (h h' : Heap) : Prop := ∀ a o, ¬ Z a → h.get? a = some o → ∃ o', h'.get? a = some o' ∧ Sim Bs a o o'
def Kp (Bs h h' : Heap) : Prop := ∀ a o, h.get? a = some o → ∃ o', h'.get? a = some o' ∧ Sim Bs a o o'
section
variable {Bs : Heap} {a : Addr} {o o' o'' : Obj} {h h' h'' : Heap}
theorem Sim.refl : Sim Bs a o o := .inl rfl
theorem Sim.trans (x : Sim Bs a o o') (y : Sim Bs a o' o'') : Sim Bs a o o'' := by
  rcases x with rfl | ⟨x1, x2, sl, rfl⟩
  · exact y
  · rcases y with rfl | ⟨y1, y2, sl', rfl⟩
    · exact .inr ⟨x1, x2, sl, rfl⟩
    · exact .inr ⟨x1, x2, sl', rfl⟩
theorem Sim.data (x : Sim Bs a o o') : o'.data = o.data := by rcases x with rfl | ⟨_, _, _, rfl⟩ <;> rfl
theorem Sim.cls (x : Sim Bs a o o') : o'.cls = o.cls := by rcases x with rfl | ⟨_, _, _, rfl⟩ <;> rfl
theorem Sim.exact (x : Sim Bs a o o') (hc : NotDict o) : o' = o := x.elim id fun ⟨_, ⟨es, n, q⟩, _⟩ => absurd q (hc es n)
theorem Kp.refl (h : Heap) : Kp Bs h h := fun _ o e => ⟨o, e, .refl⟩
theorem Kp.trans {a b c : Heap} (x : Kp Bs a b) (y : Kp Bs b c) : Kp Bs a c := fun p o e =>
  let ⟨o', e', s⟩ := x p o e; let ⟨o'', e'', s'⟩ := y p o' e'; ⟨o'', e'', s.trans s'⟩
theorem Kp.of (k : ∀ b o, h.get? b = some o → h'.get? b = some o) : Kp Bs h h' := fun b o e => ⟨o, k b o e, .refl⟩
theorem Kp.ex (k : Kp Bs h h') (e : h.get? a = some o) (hc : NotDict o) : h'.get? a = some o := by
  obtain ⟨o', e', s⟩ := k a o e; rw [s.exact hc] at e'; exact e'
theorem Kp.base (k : Kp Bs Bs h) : ∀ b o, Bs.get? b = some o → h.get? b = some o := fun b o e => by
  obtain ⟨o', e', s⟩ := k b o e
  rcases s with rfl | ⟨n, _⟩
  · exact e'
  · rw [n] at e; cases e
theorem Kb.of {Z : Addr → Prop} (k : Kp Bs h h') : Kb Bs Z h h' := fun a o _ e => k a o e
theorem Kb.same {z : Addr} (s : Heap.SameBut z h h') : Kb Bs (· = z) h h' := fun a o hz e => ⟨o, (s.2 a hz).trans e, .refl⟩
theorem Kb.trans {Z : Addr → Prop} (x : Kb Bs Z h h') (y : Kb Bs Z h' h'') : Kb Bs Z h h'' := fun p o z e =>
  let ⟨o', e', s⟩ := x p o z e; let ⟨o'', e'', s'⟩ := y p o' z e'; ⟨o'', e'', s.trans s'⟩
theorem Kb.ex {Z : Addr → Prop} (k : Kb Bs Z h h') (z : ¬ Z a) (e : h.get? a = some o) (hc : NotDict o) : h'.get? a = some o := by
  obtain ⟨o', e', s⟩ := k a o z e; rw [s.exact hc] at e'; exact e'
theorem Kb.weak {Z Z' : Addr → Prop} (k : Kb Bs Z h h') (hz : ∀ a, Z a → Z' a) : Kb Bs Z' h h' := fun a o z e => k a o (fun q => z (hz a q)) e
theorem Kb.kp {Z : Addr → Prop} {h₀ : Heap} (k : Kb Bs Z h h') (k0 : Kp Bs h₀ h) (hz : ∀ a, Z a → h₀.get? a = none) : Kp Bs h₀ h' := fun a o e => by
  obtain ⟨o', e', s⟩ := k0 a o e
  obtain ⟨o'', e'', s'⟩ := k a o' (fun q => by rw [hz a q] at e; cases e) e'
  exact ⟨o'', e'', s.trans s'⟩
theorem Kb.ns {Z : Addr → Prop} {m : Str → Option Value} (k : Kb Bs Z h h') (z : ¬ Z a) (n : h.Ns a m) : h'.Ns a m := by
  obtain ⟨o, es, ep, e, d, r⟩ := n
  obtain ⟨o', e', s⟩ := k a o z e
  exact ⟨o', es, ep, e', s.data.trans d, r⟩
theorem Kb.cell {Z : Addr → Prop} {v : Option Value} (k : Kb Bs Z h h') (z : ¬ Z a) (n : h.IsCell a v) : h'.IsCell a v := by
  obtain ⟨o, e, d⟩ := n
  obtain ⟨o', e', s⟩ := k a o z e
  exact ⟨o', e', s.data.trans d⟩
theorem Kb.list {Z : Addr → Prop} {v : Array Value} (k : Kb Bs Z h h') (z : ¬ Z a) (n : h.IsList a v) : h'.IsList a v := by
  obtain ⟨o, e, c, n, d⟩ := n
  exact ⟨o, k.ex z e (fun _ _ q => by rw [d] at q; cases q), c, n, d⟩
theorem Kp.ns {m : Str → Option Value} (k : Kp Bs h h') (n : h.Ns a m) : h'.Ns a m := (Kb.of (Z := fun _ => False) k).ns id n
theorem Kp.cell {v : Option Value} (k : Kp Bs h h') (n : h.IsCell a v) : h'.IsCell a v := (Kb.of (Z := fun _ => False) k).cell id n
theorem Kp.list {v : Array Value} (k : Kp Bs h h') (n : h.IsList a v) : h'.IsList a v := (Kb.of (Z := fun _ => False) k).list id n
end
variable {Bs : Heap}

mutual
theorem reads_alive {h : Heap} : ∀ {v : Value} {d : PyData} {as : List Addr}, Reads h v d as → d.canLay0 = true → ∀ a ∈ as, ∃ o, h.get? a = some o
  | _, _, _, .none, _, _, ha => nomatch ha
  | _, _, _, .bool _, _, _, ha => nomatch ha
  | _, _, _, .int _ _, _, _, ha => nomatch ha
  | _, _, _, .str _ _, _, _, ha => nomatch ha
  | _, _, _, .list h1 _ _ h4, hc, a, ha => by
    rcases List.mem_cons.mp ha with rfl | ha
    · exact ⟨_, h1⟩
    · exact readsAll_alive h4 hc a ha
  | _, _, _, .tuple _ _ _ h4, hc, a, ha => readsAll_alive h4 hc a ha
  | _, _, _, .dict _ _ _ _ _, hc, _, _ => nomatch hc
theorem readsAll_alive {h : Heap} : ∀ {vs : List Value} {ds : List PyData} {as : List Addr}, ReadsAll h vs ds as → PyData.canLayAll0 ds = true → ∀ a ∈ as, ∃ o, h.get? a = some o
  | _, _, _, .nil, _, _, ha => nomatch ha
  | _, _, _, .cons h1 h2, hc, a, ha => by
    rw [PyData.canLayAll0, Bool.and_eq_true] at hc
    rcases List.mem_append.mp ha with ha | ha
    · exact reads_alive h1 hc.1 a ha
    · exact readsAll_alive h2 hc.2 a ha
end

/-- what is no list under change stays -/
def Stays (X : List Addr) (h h' : Heap) : Prop := ∀ a o vs n, h.get? a = some o → o.data = .seq vs n → (o.cls = .type "tuple" ∨ (o.cls = .type "list" ∧ a ∉ X)) → h'.get? a = some o
theorem Kp.stays {X : List Addr} {h h' : Heap} (k : Kp Bs h h') : Stays X h h' := fun a o vs n e d c => k.ex e (fun _ _ q => by rw [d] at q; cases q)
mutual
theorem reads_stays {X : List Addr} {h h' : Heap} (hk : Stays X h h') : ∀ {v : Value} {d : PyData} {as : List Addr}, Reads h v d as → d.canLay0 = true → (∀ a ∈ as, a ∉ X) → Reads h' v d as
  | _, _, _, .none, _, _ => .none
  | _, _, _, .bool b, _, _ => .bool b
  | _, _, _, .int i t, _, _ => .int i t
  | _, _, _, .str x t, _, _ => .str x t
  | _, _, _, .list h1 h2 h3 h4, hc, hx => .list (hk _ _ _ _ h1 h3 (.inr ⟨h2, hx _ (List.mem_cons_self)⟩)) h2 h3 (readsAll_stays hk h4 hc fun a ha => hx a (List.mem_cons_of_mem _ ha))
  | _, _, _, .tuple h1 h2 h3 h4, hc, hx => .tuple (hk _ _ _ _ h1 h3 (.inl h2)) h2 h3 (readsAll_stays hk h4 hc hx)
  | _, _, _, .dict _ _ _ _ _, hc, _ => nomatch hc
theorem readsAll_stays {X : List Addr} {h h' : Heap} (hk : Stays X h h') : ∀ {vs : List Value} {ds : List PyData} {as : List Addr}, ReadsAll h vs ds as → PyData.canLayAll0 ds = true → (∀ a ∈ as, a ∉ X) → ReadsAll h' vs ds as
  | _, _, _, .nil, _, _ => .nil
  | _, _, _, .cons h1 h2, hc, hx => by
    rw [PyData.canLayAll0, Bool.and_eq_true] at hc
    exact .cons (reads_stays hk h1 hc.1 fun a ha => hx a (List.mem_append_left _ ha)) (readsAll_stays hk h2 hc.2 fun a ha => hx a (List.mem_append_right _ ha))
end

/-- the value v is the datum d in h, and no list of it is one of X -/
def Rp (X : List Addr) (h : Heap) (v : Value) (d : PyData) : Prop := d.canLay0 = true ∧ ∃ as, Reads h v d as ∧ ∀ a ∈ as, a ∉ X
def RpL (X : List Addr) (h : Heap) (vs : List Value) (ds : List PyData) : Prop := PyData.canLayAll0 ds = true ∧ ∃ as, ReadsAll h vs ds as ∧ ∀ a ∈ as, a ∉ X

section
variable {X Y : List Addr} {h h' : Heap} {v : Value} {d : PyData} {vs : List Value} {ds : List PyData}
theorem Rp.keep (x : Rp X h v d) (k : Kp Bs h h') : Rp X h' v d := ⟨x.1, x.2.imp fun _ y => ⟨reads_stays k.stays y.1 x.1 y.2, y.2⟩⟩
theorem RpL.keep (x : RpL X h vs ds) (k : Kp Bs h h') : RpL X h' vs ds := ⟨x.1, x.2.imp fun _ y => ⟨readsAll_stays k.stays y.1 x.1 y.2, y.2⟩⟩
theorem Rp.sub (x : Rp X h v d) (s : ∀ a ∈ Y, a ∈ X) : Rp Y h v d := ⟨x.1, x.2.imp fun _ y => ⟨y.1, fun a ha q => y.2 a ha (s a q)⟩⟩
theorem RpL.sub (x : RpL X h vs ds) (s : ∀ a ∈ Y, a ∈ X) : RpL Y h vs ds := ⟨x.1, x.2.imp fun _ y => ⟨y.1, fun a ha q => y.2 a ha (s a q)⟩⟩
theorem Rp.tail {D : Addr} (x : Rp (D :: X) h v d) : Rp X h v d := x.sub fun _ q => List.mem_cons_of_mem _ q
theorem RpL.tail {D : Addr} (x : RpL (D :: X) h vs ds) : RpL X h vs ds := x.sub fun _ q => List.mem_cons_of_mem _ q
theorem Rp.fresh {D : Addr} (x : Rp X h v d) (n : h.get? D = none) : Rp (D :: X) h v d := by
  obtain ⟨hc, as, r, hx⟩ := x
  refine ⟨hc, as, r, fun a ha q => ?_⟩
  rcases List.mem_cons.mp q with rfl | q
  · obtain ⟨o, e⟩ := reads_alive r hc a ha; rw [n] at e; cases e
  · exact hx a ha q
theorem RpL.fresh {D : Addr} (x : RpL X h vs ds) (n : h.get? D = none) : RpL (D :: X) h vs ds := by
  obtain ⟨hc, as, r, hx⟩ := x
  refine ⟨hc, as, r, fun a ha q => ?_⟩
  rcases List.mem_cons.mp q with rfl | q
  · obtain ⟨o, e⟩ := readsAll_alive r hc a ha; rw [n] at e; cases e
  · exact hx a ha q
theorem Rp.stays (x : Rp X h v d) (k : Stays X h h') : Rp X h' v d := by
  obtain ⟨hc, as, r, hx⟩ := x; exact ⟨hc, as, reads_stays k r hc hx, hx⟩
theorem RpL.stays (x : RpL X h vs ds) (k : Stays X h h') : RpL X h' vs ds := by
  obtain ⟨hc, as, r, hx⟩ := x; exact ⟨hc, as, readsAll_stays k r hc hx, hx⟩
theorem Rp.int (i : Int) (t : Tok) : Rp X h (.int i t) (.int i) := ⟨rfl, [], .int i t, fun _ q => nomatch q⟩
theorem Rp.bool (b : Bool) : Rp X h (.bool b) (.bool b) := ⟨rfl, [], .bool b, fun _ q => nomatch q⟩
theorem Rp.none : Rp X h .none .none := ⟨rfl, [], .none, fun _ q => nomatch q⟩
theorem Rp.str {x : Str} (t : Tok) (hs : (PyData.str x).canLay0 = true) : Rp X h (.str x t) (.str x) := ⟨hs, [], .str x t, fun _ q => nomatch q⟩
theorem Rp.ofInt {i : Int} (x : Rp X h v (.int i)) : ∃ t, v = .int i t := by
  obtain ⟨_, _, r, _⟩ := x; cases r; exact ⟨_, rfl⟩
theorem Rp.ofBool {b : Bool} (x : Rp X h v (.bool b)) : v = .bool b := by
  obtain ⟨_, _, r, _⟩ := x; cases r; rfl
theorem Rp.ofStr {x : Str} (y : Rp X h v (.str x)) : ∃ t, v = .str x t := by
  obtain ⟨_, _, r, _⟩ := y; cases r; exact ⟨_, rfl⟩
theorem Rp.ofList (x : Rp X h v (.list ds)) : ∃ a vs, v = .ref a ∧ a ∉ X ∧ h.IsList a vs.toArray ∧ RpL X h vs ds := by
  obtain ⟨hc, as, r, hx⟩ := x
  cases r with
  | list h1 h2 h3 h4 =>
    rename_i a o vs n as'
    exact ⟨a, vs.toList, rfl, hx _ List.mem_cons_self, ⟨o, h1, h2, n, by simpa using h3⟩, hc, as', h4, fun b hb => hx b (List.mem_cons_of_mem _ hb)⟩
theorem Rp.ofTuple (x : Rp X h v (.tuple ds)) : ∃ a vs, v = .ref a ∧ IsTup h a vs.toArray ∧ RpL X h vs ds := by
  obtain ⟨hc, as, r, hx⟩ := x
  cases r with
  | tuple h1 h2 h3 h4 =>
    rename_i a o vs n
    exact ⟨a, vs.toList, rfl, ⟨o, h1, h2, n, by simpa using h3⟩, hc, _, h4, hx⟩
theorem Rp.list {a : Addr} (hl : h.IsList a vs.toArray) (hx : a ∉ X) (r : RpL X h vs ds) : Rp X h (.ref a) (.list ds) := by
  obtain ⟨o, h1, h2, n, h3⟩ := hl
  obtain ⟨hc, as, r, hx'⟩ := r
  exact ⟨hc, a :: as, .list h1 h2 h3 (by simpa using r), fun b hb => (List.mem_cons.mp hb).elim (fun e => e ▸ hx) (hx' b)⟩
theorem Rp.tuple {a : Addr} (hl : IsTup h a vs.toArray) (r : RpL X h vs ds) : Rp X h (.ref a) (.tuple ds) := by
  obtain ⟨o, h1, h2, n, h3⟩ := hl
  obtain ⟨hc, as, r, hx'⟩ := r
  exact ⟨hc, as, .tuple h1 h2 h3 (by simpa using r), hx'⟩
theorem RpL.nil : RpL X h [] [] := ⟨rfl, [], .nil, fun _ q => nomatch q⟩
theorem RpL.cons (x : Rp X h v d) (y : RpL X h vs ds) : RpL X h (v :: vs) (d :: ds) := by
  obtain ⟨hc, as, r, hx⟩ := x
  obtain ⟨hc', as', r', hx'⟩ := y
  refine ⟨by rw [PyData.canLayAll0, hc, hc']; rfl, as ++ as', .cons r r', fun a ha => ?_⟩
  exact (List.mem_append.mp ha).elim (hx a) (hx' a)
theorem RpL.uncons (y : RpL X h (v :: vs) (d :: ds)) : Rp X h v d ∧ RpL X h vs ds := by
  obtain ⟨hc, as, r, hx⟩ := y
  rw [PyData.canLayAll0, Bool.and_eq_true] at hc
  cases r with
  | cons r r' => exact ⟨⟨hc.1, _, r, fun a ha => hx a (List.mem_append_left _ ha)⟩, ⟨hc.2, _, r', fun a ha => hx a (List.mem_append_right _ ha)⟩⟩
theorem RpL.nil_inv (y : RpL X h vs []) : vs = [] := by
  obtain ⟨_, _, r, _⟩ := y; cases r; rfl
theorem RpL.cons_inv (y : RpL X h vs (d :: ds)) : ∃ v vs', vs = v :: vs' ∧ Rp X h v d ∧ RpL X h vs' ds := by
  obtain ⟨hc, as, r, hx⟩ := y
  cases r with
  | cons r r' => exact ⟨_, _, rfl, RpL.uncons ⟨hc, _, .cons r r', hx⟩⟩
theorem RpL.append {ws : List Value} {es : List PyData} : ∀ {vs : List Value} {ds : List PyData}, RpL X h vs ds → RpL X h ws es → RpL X h (vs ++ ws) (ds ++ es)
  | vs, [], x, y => by rw [x.nil_inv]; exact y
  | vs, d :: ds, x, y => by
    obtain ⟨v, vs', rfl, a, b⟩ := x.cons_inv
    exact RpL.cons a (RpL.append b y)
theorem RpL.length : ∀ {vs : List Value} {ds : List PyData}, RpL X h vs ds → vs.length = ds.length
  | vs, [], x => by rw [x.nil_inv]; rfl
  | vs, d :: ds, x => by
    obtain ⟨v, vs', rfl, a, b⟩ := x.cons_inv
    rw [List.length_cons, List.length_cons, RpL.length b]
theorem RpL.get : ∀ {vs : List Value} {ds : List PyData} {i : Nat} {v : Value}, RpL X h vs ds → vs[i]? = some v → ∃ d, ds[i]? = some d ∧ Rp X h v d
  | vs, [], i, v, x, e => by rw [x.nil_inv] at e; cases e
  | vs, d :: ds, i, v, x, e => by
    obtain ⟨v', vs', rfl, a, b⟩ := x.cons_inv
    cases i with
    | zero => cases e; exact ⟨d, rfl, a⟩
    | succ i =>
      obtain ⟨d', e', r⟩ := RpL.get (i := i) (v := v) b (by simpa using e)
      exact ⟨d', by simpa using e', r⟩
theorem RpL.get' {i : Nat} (x : RpL X h vs ds) (e : ds[i]? = some d) : ∃ v, vs[i]? = some v ∧ Rp X h v d := by
  have hi : i < ds.length := (List.getElem?_eq_some_iff.mp e).1
  have hv : vs[i]? = some (vs[i]'(by rw [x.length]; exact hi)) := List.getElem?_eq_getElem _
  obtain ⟨d', e', r⟩ := x.get hv
  rw [e] at e'; cases e'
  exact ⟨_, hv, r⟩
theorem RpL.take (n : Nat) : ∀ {vs : List Value} {ds : List PyData}, RpL X h vs ds → RpL X h (vs.take n) (ds.take n) := by
  induction n with
  | zero => intro vs ds _; exact RpL.nil
  | succ n ih =>
    intro vs ds x
    cases ds with
    | nil => rw [x.nil_inv]; exact RpL.nil
    | cons d ds =>
      obtain ⟨v, vs', rfl, a, b⟩ := x.cons_inv
      exact RpL.cons a (ih b)
theorem RpL.drop (n : Nat) : ∀ {vs : List Value} {ds : List PyData}, RpL X h vs ds → RpL X h (vs.drop n) (ds.drop n) := by
  induction n with
  | zero => intro vs ds x; exact x
  | succ n ih =>
    intro vs ds x
    cases ds with
    | nil => rw [x.nil_inv]; exact RpL.nil
    | cons d ds =>
      obtain ⟨v, vs', rfl, a, b⟩ := x.cons_inv
      exact ih b
theorem RpL.reverse : ∀ {vs : List Value} {ds : List PyData}, RpL X h vs ds → RpL X h vs.reverse ds.reverse
  | vs, [], x => by rw [x.nil_inv]; exact RpL.nil
  | vs, d :: ds, x => by
    obtain ⟨v, vs', rfl, a, b⟩ := x.cons_inv
    rw [List.reverse_cons, List.reverse_cons]
    exact RpL.append (RpL.reverse b) (RpL.cons a RpL.nil)
end

/-- all of X live -/
def Al (X : List Addr) (h : Heap) : Prop := ∀ a ∈ X, ∃ o, h.get? a = some o
theorem Al.keep {X : List Addr} {h h' : Heap} (x : Al X h) (k : Kp Bs h h') : Al X h' := fun a ha => let ⟨o, e⟩ := x a ha; let ⟨o', e', _⟩ := k a o e; ⟨o', e'⟩
theorem Al.nil {h : Heap} : Al [] h := fun _ q => nomatch q
theorem Al.cons {X : List Addr} {h : Heap} {a : Addr} {o : Obj} (e : h.get? a = some o) (x : Al X h) : Al (a :: X) h := fun b hb => by
  exact (List.mem_cons.mp hb).elim (fun q => q ▸ ⟨o, e⟩) (x b)
theorem Al.out {X : List Addr} {h : Heap} (x : Al X h) : h.objs.size ∉ X := fun q => by
  obtain ⟨o, e⟩ := x _ q; exact Nat.lt_irrefl _ (Heap.lt_size e)
theorem Al.outOf {X : List Addr} {h : Heap} {a : Addr} (x : Al X h) (n : h.get? a = none) : a ∉ X := fun q => by
  obtain ⟨o, e⟩ := x _ q; rw [n] at e; cases e
theorem none_ge {h : Heap} {a : Addr} (ha : h.objs.size ≤ a) : h.get? a = none := by
  cases e : h.get? a with
  | none => rfl
  | some o => exact absurd (Heap.lt_size e) (Nat.not_lt.mpr ha)
theorem Kp.push {h : Heap} (o : Obj) : Kp Bs h (h.push o) := Kp.of fun _ _ e => Heap.get?_push_of_some _ e

/-! names -/
def Look (env : Env) (h : Heap) (x : Str) (v : Value) : Prop :=
  (env.kindOf x = some .local ∧ ∃ m, h.Ns env.locals m ∧ m x = some v) ∨
  ((env.kindOf x = some .cell ∨ (env.kindOf x = some .free ∧ (x == ("__classdict__" : Str)) = false)) ∧ ∃ c, env.cells.lookup x = some c ∧ h.IsCell c (some v))
def Var (X : List Addr) (env : Env) (h : Heap) (x : Str) (d : PyData) : Prop := ∃ v, Look env h x v ∧ Rp X h v d
section
variable {env : Env} {h h' : Heap} {x : Str} {v : Value} {d : PyData} {X Y : List Addr}
theorem Look.keep (l : Look env h x v) (k : Kp Bs h h') : Look env h' x v :=
  l.imp (fun ⟨a, m, n, e⟩ => ⟨a, m, k.ns n, e⟩) fun ⟨a, c, e, i⟩ => ⟨a, c, e, k.cell i⟩
theorem Var.keep (l : Var X env h x d) (k : Kp Bs h h') : Var X env h' x d := l.imp fun _ y => ⟨y.1.keep k, y.2.keep k⟩
theorem Var.sub (l : Var X env h x d) (s : ∀ a ∈ Y, a ∈ X) : Var Y env h x d := l.imp fun _ y => ⟨y.1, y.2.sub s⟩
theorem Var.tail {D : Addr} (l : Var (D :: X) env h x d) : Var X env h x d := l.imp fun _ y => ⟨y.1, y.2.tail⟩
theorem Var.fresh {D : Addr} (l : Var X env h x d) (n : h.get? D = none) : Var (D :: X) env h x d := l.imp fun _ y => ⟨y.1, y.2.fresh n⟩
end

structure Gl where
  prog : Program
  w : World
  Bs : Heap
/-! computations that only add -/
section
variable (G : Gl)
def Does {α : Type} (A : Around) (h₁ : Heap) (t : Sem α) (R : Heap → α → Prop) : Prop :=
  ∀ (s : Shared) (Q : α → Shared → Prop) (E : Value → Shared → Prop), Kp G.Bs h₁ s.heap → (∀ a h' tk, Kp G.Bs s.heap h' → R h' a → Q a { s with heap := h', toks := tk }) → wpAny (model G.prog G.w) A t Q E s
abbrev Ev (A : Around) (env : Env) (h₁ : Heap) (X : List Addr) (e : Expr) (d : PyData) : Prop := Does G A h₁ (eval e env) (fun h v => Rp X h v d)
abbrev EvV (A : Around) (env : Env) (h₁ : Heap) (e : Expr) (v : Value) : Prop := Does G A h₁ (eval e env) (fun _ u => u = v)
abbrev Tr (A : Around) (env : Env) (h₁ : Heap) (e : Expr) (b : Bool) : Prop := Does G A h₁ (isTrue e env (eval e env)) (fun _ c => c = b)
end
section
variable {G : Gl} {A : Around} {env : Env} {h₁ h₂ : Heap} {X : List Addr}
theorem Does.later {α : Type} {t : Sem α} {R : Heap → α → Prop} (x : Does G A h₁ t R) (k : Kp G.Bs h₁ h₂) : Does G A h₂ t R := fun s Q E hk hQ => x s Q E (k.trans hk) hQ
theorem Does.imp {α : Type} {t : Sem α} {R R' : Heap → α → Prop} (x : Does G A h₁ t R) (f : ∀ h a, Kp G.Bs h₁ h → R h a → R' h a) : Does G A h₁ t R' :=
  fun s Q E hk hQ => x s Q E hk fun a h' tk k r => hQ a h' tk k (f h' a (hk.trans k) r)
theorem Does.bind {α β : Type} {t : Sem α} {f : α → Sem β} {R : Heap → α → Prop} {R' : Heap → β → Prop} (x : Does G A h₁ t R)
    (y : ∀ a h', Kp G.Bs h₁ h' → R h' a → Does G A h' (f a) R') : Does G A h₁ (t >>= f) R' := fun s Q E hk hQ =>
  wpAny_bind (x s _ E hk fun a h' tk k r => y a h' (hk.trans k) r _ Q E (Kp.refl _) fun b h'' tk' k' r' => hQ b h'' tk' (k.trans k') r')
theorem Does.pure {α : Type} {a : α} {R : Heap → α → Prop} (r : ∀ h, Kp G.Bs h₁ h → R h a) : Does G A h₁ (Pure.pure a) R := fun s Q E hk hQ =>
  wpAny_pure (by have := hQ a s.heap s.toks (Kp.refl _) (r _ hk); exact this)
theorem Does.ofEq {α : Type} {t t' : Sem α} {R : Heap → α → Prop} (e : t = t') (x : Does G A h₁ t' R) : Does G A h₁ t R := e ▸ x

theorem ev_name {x : Str} {pos : Pos} {d : PyData} (v : Var X env h₁ x d) (hk : env.scope.kind = .function) (hd : (x == ("__debug__" : Str)) = false := by decide) : Ev G A env h₁ X (.Name x pos) d := by
  intro s Q E k hQ
  obtain ⟨u, l, r⟩ := v.keep k
  have fin : Q u s := by have := hQ u s.heap s.toks (Kp.refl _) r; exact this
  rcases l with ⟨a, m, n, e⟩ | ⟨a, c, e, i⟩
  · exact wpAny_Name (wpAny_loadName_local hk a n e fin) hd
  · rcases a with a | ⟨a, b⟩
    · exact wpAny_Name (wpAny_loadName_cell hk a e i fin) hd
    · exact wpAny_Name (wpAny_loadName_free hk a e i fin b) hd
theorem evV_name {x : Str} {pos : Pos} {u : Value} (l : Look env h₁ x u) (hk : env.scope.kind = .function) (hd : (x == ("__debug__" : Str)) = false := by decide) : EvV G A env h₁ (.Name x pos) u := by
  intro s Q E k hQ
  have l := l.keep k
  have fin : Q u s := by have := hQ u s.heap s.toks (Kp.refl _) rfl; exact this
  rcases l with ⟨a, m, n, e⟩ | ⟨a, c, e, i⟩
  · exact wpAny_Name (wpAny_loadName_local hk a n e fin) hd
  · rcases a with a | ⟨a, b⟩
    · exact wpAny_Name (wpAny_loadName_cell hk a e i fin) hd
    · exact wpAny_Name (wpAny_loadName_free hk a e i fin b) hd
theorem ev_int {i : Int} {k : Nat} {pos : Pos} : Ev G A env h₁ X (.Constant (.int i) k pos) (.int i) := fun s Q E _ hQ =>
  wpAny_Constant_int (by have := hQ (.int i s.toks) s.heap (s.toks + 1) (Kp.refl _) (Rp.int i _); exact this)
theorem ev_bool {b : Bool} {k : Nat} {pos : Pos} : Ev G A env h₁ X (.Constant (.bool b) k pos) (.bool b) := fun s Q E _ hQ =>
  PyProof.Rows.Constant_bool (by have := hQ (.bool b) s.heap s.toks (Kp.refl _) (Rp.bool b); exact this)

/-- both sides, then the operation -/
theorem does_two {l r : Sem Value} {t : Sem Value} {R1 R2 R : Heap → Value → Prop} (hl : Does G A h₁ l R1) (hr : Does G A h₁ r R2)
    (m1 : ∀ h h' v, Kp G.Bs h h' → R1 h v → R1 h' v) {op : Value → Value → Sem Value}
    (ho : ∀ a b h, Kp G.Bs h₁ h → R1 h a → R2 h b → Does G A h (op a b) R)
    (ht : ∀ {s Q E}, wpAny (model G.prog G.w) A l (fun a s₁ => wpAny (model G.prog G.w) A r (fun b s₂ => wpAny (model G.prog G.w) A (op a b) Q E s₂) E s₁) E s → wpAny (model G.prog G.w) A t Q E s) :
    Does G A h₁ t R := fun s Q E hk hQ =>
  ht (hl s _ E hk fun a h' tk k r => hr _ _ E (hk.trans k) fun b h'' tk' k' r' => ho a b h'' (hk.trans (k.trans k')) (m1 _ _ _ k' r) r' _ Q E (Kp.refl _)
    fun c h3 tk3 k3 r3 => hQ c h3 tk3 (k.trans (k'.trans k3)) r3)
theorem rp_mono {d : PyData} : ∀ h h' v, Kp G.Bs h h' → Rp X h v d → Rp X h' v d := fun _ _ _ k r => r.keep k

theorem ev_bin {l r : Expr} {op : Operator} {pos : Pos} {d1 d2 : PyData} {R : Heap → Value → Prop} (hl : Ev G A env h₁ X l d1) (hr : Ev G A env h₁ X r d2)
    (ho : ∀ a b h, Kp G.Bs h₁ h → Rp X h a d1 → Rp X h b d2 → Does G A h (binaryOp op a b) R) : Does G A h₁ (eval (.BinOp l op r pos) env) R :=
  does_two hl hr rp_mono ho fun h => wpAny_BinOp h
theorem ev_cmp {l r : Expr} {op : CmpOp} {pos : Pos} {d1 d2 : PyData} {R : Heap → Value → Prop} (hl : Ev G A env h₁ X l d1) (hr : Ev G A env h₁ X r d2)
    (ho : ∀ a b h, Kp G.Bs h₁ h → Rp X h a d1 → Rp X h b d2 → Does G A h (compareOp op a b) R) (hm : behindInMarks op r = false := by with_unfolding_all rfl) : Does G A h₁ (eval (.Compare l [op] [r] pos) env) R :=
  does_two hl hr rp_mono ho fun h => wpAny_Compare1 h hm
theorem tr_cmp {l r : Expr} {op : CmpOp} {pos : Pos} {d1 d2 : PyData} {b : Bool} (hl : Ev G A env h₁ X l d1) (hr : Ev G A env h₁ X r d2)
    (ho : ∀ a c h, Kp G.Bs h₁ h → Rp X h a d1 → Rp X h c d2 → Does G A h (compareOp op a c) (fun h v => v = .bool b)) (hm : behindInMarks op r = false := by with_unfolding_all rfl) : Tr G A env h₁ (.Compare l [op] [r] pos) b := fun s Q E hk hQ =>
  wpAny_isTrue_Compare1 (hl s _ E hk fun a h' tk k r => hr _ _ E (hk.trans k) fun c h'' tk' k' r' => ho a c h'' (hk.trans (k.trans k')) (r.keep k') r' _ _ E (Kp.refl _)
    fun u h3 tk3 k3 r3 => by subst r3; exact wpAny_truthy_bool (hQ b h3 tk3 (k.trans (k'.trans k3)) rfl)) hm
theorem tr_ev {e : Expr} {b : Bool} (x : Ev G A env h₁ X e (.bool b)) (he : ∀ whole, isTrue e env whole = (do let v ← whole; standAt e.pos; holding [v] (truthy v)) := by intro _; rfl) : Tr G A env h₁ e b := fun s Q E hk hQ =>
  isTrue_plain (x s _ E hk fun v h' tk k r => by rw [r.ofBool]; exact wpAny_truthy_bool (hQ b h' tk k rfl)) (he _)
theorem tr_not {e : Expr} {pos : Pos} {b : Bool} (x : Tr G A env h₁ e b) : Tr G A env h₁ (.UnaryOp .Not e pos) (!b) := fun s Q E hk hQ =>
  wpAny_isTrue_Not (x s _ E hk fun c h' tk k r => by subst r; exact hQ _ h' tk k rfl)
theorem tr_or {x y : Expr} {pos : Pos} {b c : Bool} (hx : Tr G A env h₁ x b) (hy : b = false → Tr G A env h₁ y c) : Tr G A env h₁ (.BoolOp .Or [x, y] pos) (b || c) := fun s Q E hk hQ =>
  isTrue_or (hx s _ E hk fun b' h' tk k r => by
    subst r
    cases b' with
    | true => exact hQ true h' tk k rfl
    | false => exact isTrue_or (hy rfl _ _ E (hk.trans k) fun c' h'' tk' k' r' => by
        subst r'
        cases c' with
        | true => exact hQ true h'' tk' (k.trans k') rfl
        | false => exact isTrue_or_nil (hQ false h'' tk' (k.trans k') rfl)))
theorem tr_and {x y : Expr} {pos : Pos} {b c : Bool} (hx : Tr G A env h₁ x b) (hy : b = true → Tr G A env h₁ y c) : Tr G A env h₁ (.BoolOp .And [x, y] pos) (b && c) := fun s Q E hk hQ =>
  isTrue_and (hx s _ E hk fun b' h' tk k r => by
    subst r
    cases b' with
    | false => exact hQ false h' tk k rfl
    | true => exact isTrue_and (hy rfl _ _ E (hk.trans k) fun c' h'' tk' k' r' => by
        subst r'
        cases c' with
        | false => exact hQ false h'' tk' (k.trans k') rfl
        | true => exact isTrue_and_nil (hQ true h'' tk' (k.trans k') rfl)))
end
end Mine
namespace Mine
theorem marks_off (op : CmpOp) (r : Expr) (h : (op == .In || op == .NotIn) = false) : behindInMarks op r = false := by
  cases r <;> simp [behindInMarks, h]
section
variable {G : Gl} {A : Around} {env : Env} {h₁ h₂ : Heap} {X : List Addr} {l r : Expr} {pos : Pos} {a b : Int}
theorem ev_add (hl : Ev G A env h₁ X l (.int a)) (hr : Ev G A env h₁ X r (.int b)) : Ev G A env h₁ X (.BinOp l .Add r pos) (.int (a + b)) :=
  ev_bin hl hr fun u v h k ru rv s Q E hk hQ => by
    obtain ⟨t1, rfl⟩ := ru.ofInt; obtain ⟨t2, rfl⟩ := rv.ofInt
    exact add_int (hQ _ s.heap (s.toks + 1) (Kp.refl _) (Rp.int _ _))
theorem ev_sub (hl : Ev G A env h₁ X l (.int a)) (hr : Ev G A env h₁ X r (.int b)) : Ev G A env h₁ X (.BinOp l .Sub r pos) (.int (a - b)) :=
  ev_bin hl hr fun u v h k ru rv s Q E hk hQ => by
    obtain ⟨t1, rfl⟩ := ru.ofInt; obtain ⟨t2, rfl⟩ := rv.ofInt
    exact sub_int (hQ _ s.heap (s.toks + 1) (Kp.refl _) (Rp.int _ _))
theorem ev_mul (hl : Ev G A env h₁ X l (.int a)) (hr : Ev G A env h₁ X r (.int b)) (hm : IntMulOk a b) : Ev G A env h₁ X (.BinOp l .Mult r pos) (.int (a * b)) :=
  ev_bin hl hr fun u v h k ru rv s Q E hk hQ => by
    obtain ⟨t1, rfl⟩ := ru.ofInt; obtain ⟨t2, rfl⟩ := rv.ofInt
    exact mul_int (hQ _ s.heap (s.toks + 1) (Kp.refl _) (Rp.int _ _)) hm
theorem ev_fdiv (hl : Ev G A env h₁ X l (.int a)) (hr : Ev G A env h₁ X r (.int b)) (hb : b ≠ 0) (hp : Builtin.divisionGoesByPylong a b = false) : Ev G A env h₁ X (.BinOp l .FloorDiv r pos) (.int (a.fdiv b)) :=
  ev_bin hl hr fun u v h k ru rv s Q E hk hQ => by
    obtain ⟨t1, rfl⟩ := ru.ofInt; obtain ⟨t2, rfl⟩ := rv.ofInt
    exact floordiv_int hb (hQ _ s.heap (s.toks + 1) (Kp.refl _) (Rp.int _ _)) (.inl hp)
theorem ev_mod (hl : Ev G A env h₁ X l (.int a)) (hr : Ev G A env h₁ X r (.int b)) (hb : b ≠ 0) : Ev G A env h₁ X (.BinOp l .Mod r pos) (.int (a.fmod b)) :=
  ev_bin hl hr fun u v h k ru rv s Q E hk hQ => by
    obtain ⟨t1, rfl⟩ := ru.ofInt; obtain ⟨t2, rfl⟩ := rv.ofInt
    exact mod_int' hb (hQ _ s.heap (s.toks + 1) (Kp.refl _) (Rp.int _ _))
theorem ev_pow (hl : Ev G A env h₁ X l (.int a)) (hr : Ev G A env h₁ X r (.int b)) (hb : 0 ≤ b) (hb2 : b ≤ 1000000) (ha : a.natAbs < 2 ^ 64) : Ev G A env h₁ X (.BinOp l .Pow r pos) (.int (a ^ b.toNat)) :=
  ev_bin hl hr fun u v h k ru rv s Q E hk hQ => by
    obtain ⟨t1, rfl⟩ := ru.ofInt; obtain ⟨t2, rfl⟩ := rv.ofInt
    exact pow_int_small hb hb2 ha (hQ _ s.heap (s.toks + 1) (Kp.refl _) (Rp.int _ _))
theorem ev_xor (hl : Ev G A env h₁ X l (.int a)) (hr : Ev G A env h₁ X r (.int b)) : Ev G A env h₁ X (.BinOp l .BitXor r pos) (.int (Builtin.bitXor a b)) :=
  ev_bin hl hr fun u v h k ru rv s Q E hk hQ => by
    obtain ⟨t1, rfl⟩ := ru.ofInt; obtain ⟨t2, rfl⟩ := rv.ofInt
    exact xor_int (hQ _ s.heap (s.toks + 1) (Kp.refl _) (Rp.int _ _))
theorem ev_neg {e : Expr} (hl : Ev G A env h₁ X e (.int a)) : Ev G A env h₁ X (.UnaryOp .USub e pos) (.int (-a)) := fun s Q E hk hQ =>
  wpAny_UnaryOp (hl s _ E hk fun v h' tk k r => by
    obtain ⟨t1, rfl⟩ := r.ofInt
    exact neg_int (hQ _ h' (tk + 1) k (Rp.int _ _)))
theorem tr_lt (hl : Ev G A env h₁ X l (.int a)) (hr : Ev G A env h₁ X r (.int b)) : Tr G A env h₁ (.Compare l [.Lt] [r] pos) (decide (a < b)) :=
  tr_cmp hl hr (fun u v h k ru rv s Q E hk hQ => by
    obtain ⟨t1, rfl⟩ := ru.ofInt; obtain ⟨t2, rfl⟩ := rv.ofInt
    exact lt_int (hQ _ s.heap s.toks (Kp.refl _) rfl)) (marks_off _ r (by decide))
theorem tr_gt (hl : Ev G A env h₁ X l (.int a)) (hr : Ev G A env h₁ X r (.int b)) : Tr G A env h₁ (.Compare l [.Gt] [r] pos) (decide (b < a)) :=
  tr_cmp hl hr (fun u v h k ru rv s Q E hk hQ => by
    obtain ⟨t1, rfl⟩ := ru.ofInt; obtain ⟨t2, rfl⟩ := rv.ofInt
    exact gt_int (hQ _ s.heap s.toks (Kp.refl _) rfl)) (marks_off _ r (by decide))
theorem tr_eqi (hl : Ev G A env h₁ X l (.int a)) (hr : Ev G A env h₁ X r (.int b)) : Tr G A env h₁ (.Compare l [.Eq] [r] pos) (a == b) :=
  tr_cmp hl hr (fun u v h k ru rv s Q E hk hQ => by
    obtain ⟨t1, rfl⟩ := ru.ofInt; obtain ⟨t2, rfl⟩ := rv.ofInt
    exact eq_int (hQ _ s.heap s.toks (Kp.refl _) rfl)) (marks_off _ r (by decide))
/-! any two data compared -/
theorem does_eq {d1 d2 : PyData} {u v : Value} (ru : Rp X h₁ u d1) (rv : Rp X h₁ v d2) (hu : A.units + min d1.depth d2.depth < cLine) : Does G A h₁ (compareOp .Eq u v) (fun _ x => x = .bool (d1.eqv d2)) := fun s Q E hk hQ => by
  obtain ⟨c1, as1, r1, _⟩ := ru.keep hk
  obtain ⟨c2, as2, r2, _⟩ := rv.keep hk
  exact SeqAt.compareEq_reads r1 r2 c1 c2 hu (hQ _ s.heap s.toks (Kp.refl _) rfl)
theorem does_notIn {ds : List PyData} {d2 : PyData} {u v : Value} (ru : Rp X h₁ u (.list ds)) (rv : Rp X h₁ v d2) (hu : A.units + 1 + min (PyData.depthAll ds) d2.depth < cLine) :
    Does G A h₁ (compareOp .NotIn v u) (fun _ x => x = .bool (!ds.any fun y => y.eqv d2)) := fun s Q E hk hQ => by
  obtain ⟨c1, as1, r1, _⟩ := ru.keep hk
  obtain ⟨c2, as2, r2, _⟩ := rv.keep hk
  exact SeqAt.notIn_list_reads r1 r2 c1 c2 hu (hQ _ s.heap s.toks (Kp.refl _) rfl)
theorem ev_eq {d1 d2 : PyData} (hl : Ev G A env h₁ X l d1) (hr : Ev G A env h₁ X r d2) (hu : A.units + min d1.depth d2.depth < cLine) : Ev G A env h₁ X (.Compare l [.Eq] [r] pos) (.bool (d1.eqv d2)) :=
  ev_cmp hl hr (fun u v h k ru rv => (does_eq ru rv hu).imp fun _ _ _ e => by subst e; exact Rp.bool _) (marks_off _ r (by decide))
theorem tr_eq {d1 d2 : PyData} (hl : Ev G A env h₁ X l d1) (hr : Ev G A env h₁ X r d2) (hu : A.units + min d1.depth d2.depth < cLine) : Tr G A env h₁ (.Compare l [.Eq] [r] pos) (d1.eqv d2) :=
  tr_cmp hl hr (fun u v h k ru rv => does_eq ru rv hu) (marks_off _ r (by decide))
theorem tr_notIn {ds : List PyData} {d : PyData} (hl : Ev G A env h₁ X l d) (hr : Ev G A env h₁ X r (.list ds)) (hu : A.units + 1 + min (PyData.depthAll ds) d.depth < cLine) (hm : behindInMarks .NotIn r = false := by with_unfolding_all rfl) :
    Tr G A env h₁ (.Compare l [.NotIn] [r] pos) (!ds.any fun y => y.eqv d) :=
  tr_cmp hl hr (fun u v h k ru rv => does_notIn rv ru hu) hm
theorem ev_and {x y : Expr} {b c : Bool} (hx : Ev G A env h₁ X x (.bool b)) (hy : b = true → Ev G A env h₁ X y (.bool c)) : Ev G A env h₁ X (.BoolOp .And [x, y] pos) (.bool (b && c)) := fun s Q E hk hQ =>
  wpAny_And2 (hx s _ E hk fun v h' tk k r => by
    rw [r.ofBool]
    refine wpAny_truthy_bool ?_
    cases b with
    | false => exact hQ _ h' tk k (Rp.bool _)
    | true => exact hy rfl _ Q E (hk.trans k) fun v' h'' tk' k' r' => hQ _ h'' tk' (k.trans k') r')
theorem ev_if {t x y : Expr} {b : Bool} {d : PyData} (ht : Tr G A env h₁ t b) (hx : b = true → Ev G A env h₁ X x d) (hy : b = false → Ev G A env h₁ X y d) : Ev G A env h₁ X (.IfExp t x y pos) d := fun s Q E hk hQ =>
  wpAny_IfExp (ht s _ E hk fun c h' tk k r => by
    subst r
    cases c with
    | true => exact hx rfl _ Q E (hk.trans k) fun v h'' tk' k' r => hQ v h'' tk' (k.trans k') r
    | false => exact hy rfl _ Q E (hk.trans k) fun v h'' tk' k' r => hQ v h'' tk' (k.trans k') r)
end

/-! globals -/
structure Wd (K : Frag) (b : Heap) : Prop where
  K : K.In b
  g : ∃ mg, b.Ns mainGlobals mg
  bu : ∃ mb, b.Ns builtinsNs mb ∧ ∀ x : Str, x ≠ "__name__" → mb x = bootBuiltins x
  nolimit : b.NoLimit
  digits : ∃ mc, b.Ns cStatics mc ∧ mc "sys.int_max_str_digits" = none
theorem mg_none {K : Frag} {h : Heap} {mg : Str → Option Value} {n : Str} (X : K.In h) (g : h.Ns mainGlobals mg) (e : nsIn K mainGlobals n = some none) : mg n = none := by
  obtain ⟨o, es, ep, ho, hd, hk, hf⟩ := g
  unfold nsIn at e
  split at e
  · rename_i c d es' ep' sl hl
    have := X _ _ hl
    rw [ho] at this
    cases this
    cases hd
    rw [← hf n]
    unfold nsFind findBy
    cases q : List.find? (fun x => x.key.isStr n) es.toList with
    | some y => rw [q] at e; simp at e
    | none =>
      have : es.find? (fun x => x.key.isStr n) = none := by rw [← Array.find?_toList]; exact q
      rw [this]; rfl
  · cases e
section
variable {G : Gl} {A : Around} {env : Env} {K : Frag} {h₁ h₂ : Heap} {X : List Addr} {pos : Pos}
theorem ev_glob {x : Str} {v : Value} (W : Wd K G.Bs) (hb : Kp G.Bs G.Bs h₁) (e : nsIn K mainGlobals x = some (some v)) (hg : env.globals = mainGlobals := by rfl) (hk : env.scope.kind = .function := by rfl)
    (hx : env.kindOf x = some .globalImplicit := by rfl) (hd : (x == ("__debug__" : Str)) = false := by decide) : EvV G A env h₁ (.Name x pos) v := fun s Q E k hQ => by
  obtain ⟨mg, g⟩ := W.g
  exact Calls.Name_function_global hk hx (Calls.loadGlobal_global (env := env) (by rw [hg]; exact g.keeps (hb.trans k).base) (mg_of W.K g e) (hQ v s.heap s.toks (Kp.refl _) rfl)) hd
theorem ev_built {x : Str} {v : Value} (W : Wd K G.Bs) (hb : Kp G.Bs G.Bs h₁) (e : nsIn K mainGlobals x = some none) (ev : bootBuiltins x = some v) (hg : env.globals = mainGlobals := by rfl) (hbu : env.builtins = builtinsNs := by rfl) (hk : env.scope.kind = .function := by rfl)
    (hx : env.kindOf x = some .globalImplicit := by rfl) (hd : (x == ("__debug__" : Str)) = false := by decide) (hn : x ≠ "__name__" := by decide) : EvV G A env h₁ (.Name x pos) v := fun s Q E k hQ => by
  obtain ⟨mg, g⟩ := W.g
  obtain ⟨mb, bn, hbb⟩ := W.bu
  exact Calls.Name_function_global hk hx (Calls.loadGlobal_builtin (env := env) (by rw [hg]; exact g.keeps (hb.trans k).base) (mg_none W.K g e) (by rw [hbu]; exact bn.keeps (hb.trans k).base) ((hbb x hn).trans ev) (hQ v s.heap s.toks (Kp.refl _) rfl)) hd
/-! arguments -/
theorem ar_nil : Does G A h₁ (spliced (backTo pos (starEach [] env))) (fun h vs => RpL X h vs []) := fun s Q E k hQ => args_nil (hQ [] s.heap s.toks (Kp.refl _) RpL.nil)
theorem ar_cons {e : Expr} {rest : List Expr} {d : PyData} {ds : List PyData} (he : Ev G A env h₁ X e d) (hr : Does G A h₁ (spliced (backTo pos (starEach rest env))) (fun h vs => RpL X h vs ds))
    (hs : starEach (e :: rest) env = (false, eval e env) :: starEach rest env := by rfl) : Does G A h₁ (spliced (backTo pos (starEach (e :: rest) env))) (fun h vs => RpL X h vs (d :: ds)) := fun s Q E k hQ =>
  args_cons (he s _ E k fun v h' tk k' r => hr _ _ E (k.trans k') fun vs h'' tk' k'' r' => hQ (v :: vs) h'' tk' (k'.trans k'') (RpL.cons (r.keep k'') r')) hs
theorem arV_cons {e : Expr} {rest : List Expr} {u : Value} {R : Heap → List Value → Prop} (he : EvV G A env h₁ e u) (hr : Does G A h₁ (spliced (backTo pos (starEach rest env))) R)
    (hs : starEach (e :: rest) env = (false, eval e env) :: starEach rest env := by rfl) : Does G A h₁ (spliced (backTo pos (starEach (e :: rest) env))) (fun h vs => ∃ vs', vs = u :: vs' ∧ R h vs') := fun s Q E k hQ =>
  args_cons (he s _ E k fun v h' tk k' r => hr _ _ E (k.trans k') fun vs h'' tk' k'' r' => by subst r; exact hQ (v :: vs) h'' tk' (k'.trans k'') ⟨vs, rfl, r'⟩) hs
theorem arR_cons {e : Expr} {rest : List Expr} {d : PyData} {R : Heap → List Value → Prop} (he : Ev G A env h₁ X e d) (hr : Does G A h₁ (spliced (backTo pos (starEach rest env))) R)
    (hs : starEach (e :: rest) env = (false, eval e env) :: starEach rest env := by rfl) : Does G A h₁ (spliced (backTo pos (starEach (e :: rest) env))) (fun h vs => ∃ v vs', vs = v :: vs' ∧ Rp X h v d ∧ R h vs') := fun s Q E k hQ =>
  args_cons (he s _ E k fun v h' tk k' r => hr _ _ E (k.trans k') fun vs h'' tk' k'' r' => hQ (v :: vs) h'' tk' (k'.trans k'') ⟨v, vs, rfl, r.keep k'', r'⟩) hs
/-- a def's call -/
theorem ev_call {f : Expr} {e : Expr} {rest : List Expr} {a : Addr} {o : Obj} {fd : FuncData} {R1 : Heap → List Value → Prop} {R : Heap → Value → Prop} (hf : EvV G A env h₁ f (.ref a)) (hb : Kp G.Bs G.Bs h₁) (ho : G.Bs.get? a = some o) (hfd : o.data = .func fd)
    (ha : Does G A h₁ (spliced (backTo pos (starEach (e :: rest) env))) R1) (hc : ∀ vs h, Kp G.Bs h₁ h → R1 h vs → Does G A h (call (.ref a) vs) R)
    (hs : starEach (e :: rest) env = (false, eval e env) :: starEach rest env := by rfl)
    (he : eval (.Call f (e :: rest) [] pos) env = (do callWith pos (← eval f env) [] (backTo pos (starEach (e :: rest) env)) (backToKw pos (keywordEach [] env))) := by rfl) :
    Does G A h₁ (eval (.Call f (e :: rest) [] pos) env) R := fun s Q E k hQ =>
  Call_ (hf s _ E k fun v h' tk k' r => by
    subst r
    exact callWith_def hfd (ha _ _ E (k.trans k') fun vs h'' tk' k'' r' => ⟨((hb.trans k).trans (k'.trans k'')).base _ _ ho, hc vs h'' (k.trans (k'.trans k'')) r' _ Q E (Kp.refl _) fun x h3 tk3 k3 r3 => hQ x h3 tk3 (k'.trans (k''.trans k3)) r3⟩) hs) he
theorem ev_callB {f : Expr} {e : Expr} {rest : List Expr} {id : String} {R1 : Heap → List Value → Prop} {R : Heap → Value → Prop} (hf : EvV G A env h₁ f (.builtin id))
    (ha : Does G A h₁ (spliced (backTo pos (starEach (e :: rest) env))) R1) (hc : ∀ vs h, Kp G.Bs h₁ h → R1 h vs → Does G A h (call (.builtin id) vs) R)
    (hs : starEach (e :: rest) env = (false, eval e env) :: starEach rest env := by rfl) (hp : (backTo pos (starEach rest env)).any (·.1) = false := by rfl)
    (he : eval (.Call f (e :: rest) [] pos) env = (do callWith pos (← eval f env) [] (backTo pos (starEach (e :: rest) env)) (backToKw pos (keywordEach [] env))) := by rfl) :
    Does G A h₁ (eval (.Call f (e :: rest) [] pos) env) R := fun s Q E k hQ =>
  Call_ (hf s _ E k fun v h' tk k' r => by
    subst r
    exact PyProof.Rows.callWith_builtin1 (ha _ _ E (k.trans k') fun vs h'' tk' k'' r' => hc vs h'' (k.trans (k'.trans k'')) r' _ Q E (Kp.refl _) fun x h3 tk3 k3 r3 => hQ x h3 tk3 (k'.trans (k''.trans k3)) r3) hs hp) he
theorem ev_callT {f : Expr} {e : Expr} {rest : List Expr} {T : String} {R1 : Heap → List Value → Prop} {R : Heap → Value → Prop} (hf : EvV G A env h₁ f (.type T))
    (ha : Does G A h₁ (spliced (backTo pos (starEach (e :: rest) env))) R1) (hc : ∀ vs h, Kp G.Bs h₁ h → R1 h vs → Does G A h (call (.type T) vs) R)
    (hs : starEach (e :: rest) env = (false, eval e env) :: starEach rest env := by rfl) (hp : (backTo pos (starEach rest env)).any (·.1) = false := by rfl)
    (he : eval (.Call f (e :: rest) [] pos) env = (do callWith pos (← eval f env) [] (backTo pos (starEach (e :: rest) env)) (backToKw pos (keywordEach [] env))) := by rfl) :
    Does G A h₁ (eval (.Call f (e :: rest) [] pos) env) R := fun s Q E k hQ =>
  Call_ (hf s _ E k fun v h' tk k' r => by
    subst r
    exact PyProof.Rows.callWith_type1 (ha _ _ E (k.trans k') fun vs h'' tk' k'' r' => hc vs h'' (k.trans (k'.trans k'')) r' _ Q E (Kp.refl _) fun x h3 tk3 k3 r3 => hQ x h3 tk3 (k'.trans (k''.trans k3)) r3) hs hp) he
/-! displays -/
theorem isList_new {h : Heap} {vs : List Value} : (h.push { cls := .type "list", data := .seq vs.toArray }).IsList h.objs.size vs.toArray := ⟨_, Heap.get?_push_size _ rfl, rfl, _, rfl⟩
theorem isTup_new {h : Heap} {vs : List Value} : IsTup (h.push { cls := .type "tuple", data := .seq vs.toArray }) h.objs.size vs.toArray := ⟨_, Heap.get?_push_size _ rfl, rfl, _, rfl⟩
theorem ev_tuple {es : List Expr} {k : Nat} {ds : List PyData} (ha : Does G A h₁ (spliced (backTo pos (starEach es env))) (fun h vs => RpL X h vs ds)) (hsz : ds.length ≤ sizeLine := by decide) : Ev G A env h₁ X (.Tuple es k pos) (.tuple ds) := fun s Q E hk hQ =>
  Tuple_ (ha s _ E hk fun vs h' tk k' r => wpAny_newObj_type (hQ _ _ tk (k'.trans (Kp.push _)) (Rp.tuple isTup_new (r.keep (Kp.push (Bs := G.Bs) _)))) (by show vs.toArray.size ≤ sizeLine; rw [List.size_toArray, r.length]; exact hsz))
theorem ev_list {es : List Expr} {ds : List PyData} (hX : Al X h₁) (ha : Does G A h₁ (spliced (backTo pos (starEach es env))) (fun h vs => RpL X h vs ds)) (hsz : ds.length ≤ sizeLine := by decide) : Ev G A env h₁ X (.List es pos) (.list ds) := fun s Q E hk hQ =>
  List_ (ha s _ E hk fun vs h' tk k' r => wpAny_newObj_type (hQ _ _ tk (k'.trans (Kp.push _)) (Rp.list isList_new ((hX.keep (hk.trans k')).out) (r.keep (Kp.push (Bs := G.Bs) _)))) (by show vs.toArray.size ≤ sizeLine; rw [List.size_toArray, r.length]; exact hsz))
end
end Mine
namespace Mine

/-- one slot of the frame is stored to -/
def Upd (env : Env) (x : Str) (v : Value) (h h' : Heap) : Prop :=
  (env.kindOf x = some .local ∧ (∃ m, h.Ns env.locals m ∧ h'.Ns env.locals (fun y => if y = x then some v else m y)) ∧ Heap.SameBut env.locals h h') ∨
  (env.kindOf x = some .cell ∧ ∃ c, env.cells.lookup x = some c ∧ (∃ u, h.IsCell c u) ∧ h'.IsCell c (some v) ∧ Heap.SameBut c h h')
abbrev Apart (env : Env) : Prop := env.cells.Pairwise fun x y => x.2 ≠ y.2

theorem ns_not_cell {h : Heap} {a : Addr} {m : Str → Option Value} {v : Option Value} (x : h.Ns a m) (y : h.IsCell a v) : False := by
  obtain ⟨o, es, ep, e, d, _⟩ := x
  obtain ⟨o', e', d'⟩ := y
  rw [e] at e'; cases e'; rw [d] at d'; cases d'
section
variable {env : Env} {x : Str} {v : Value} {h h' : Heap}
theorem Upd.stays (u : Upd env x v h h') : Stays [] h h' := by
  intro a o vs n e d _
  rcases u with ⟨_, ⟨m, n1, n2⟩, s⟩ | ⟨_, c, _, ⟨w, i⟩, _, s⟩
  · refine (s.2 a fun q => ?_).trans e
    subst q
    obtain ⟨o', es, ep, e', d', _⟩ := n1
    rw [e] at e'; cases e'; rw [d] at d'; cases d'
  · refine (s.2 a fun q => ?_).trans e
    subst q
    obtain ⟨o', e', d'⟩ := i
    rw [e] at e'; cases e'; rw [d] at d'; cases d'
theorem Stays.mono {X : List Addr} (s : Stays [] h h') : Stays X h h' := fun a o vs n e d c => s a o vs n e d (c.imp id fun q => ⟨q.1, List.not_mem_nil⟩)
theorem Upd.rp {X : List Addr} {u : Value} {d : PyData} (k : Upd env x v h h') (r : Rp X h u d) : Rp X h' u d := r.stays k.stays.mono
theorem Upd.rpL {X : List Addr} {u : List Value} {d : List PyData} (k : Upd env x v h h') (r : RpL X h u d) : RpL X h' u d := r.stays k.stays.mono
theorem Upd.self (k : Upd env x v h h') : Look env h' x v := by
  rcases k with ⟨a, ⟨m, n1, n2⟩, s⟩ | ⟨a, c, e, _, i, s⟩
  · exact .inl ⟨a, _, n2, by simp⟩
  · exact .inr ⟨.inl a, c, e, i⟩
theorem Upd.look {y : Str} {u : Value} (ap : Apart env ∨ env.kindOf x = some .local) (k : Upd env x v h h') (hy : y ≠ x) (l : Look env h y u) : Look env h' y u := by
  rcases k with ⟨a, ⟨m, n1, n2⟩, s⟩ | ⟨a, c, e, ⟨w, i0⟩, i, s⟩
  · rcases l with ⟨b, m', n', e'⟩ | ⟨b, c', e', i'⟩
    · exact .inl ⟨b, _, n2, by rw [if_neg hy, Heap.Ns.agree n1 n' y]; exact e'⟩
    · exact .inr ⟨b, c', e', i'.sameBut s fun q => by subst q; exact ns_not_cell n1 i'⟩
  · rcases l with ⟨b, m', n', e'⟩ | ⟨b, c', e', i'⟩
    · exact .inl ⟨b, m', n'.sameBut s fun q => by subst q; exact ns_not_cell n' i0, e'⟩
    · refine .inr ⟨b, c', e', i'.sameBut s fun q => ?_⟩
      subst q
      rcases ap with ap | ap
      · exact hy (name_of_addr ap (mem_of_lookup e') (mem_of_lookup e))
      · rw [a] at ap; cases ap
theorem Upd.var {X : List Addr} {y : Str} {d : PyData} (ap : Apart env ∨ env.kindOf x = some .local) (k : Upd env x v h h') (hy : y ≠ x) (l : Var X env h y d) : Var X env h' y d :=
  l.imp fun _ z => ⟨k.look ap hy z.1, k.rp z.2⟩
theorem Upd.new {X : List Addr} {d : PyData} (k : Upd env x v h h') (r : Rp X h v d) : Var X env h' x d := ⟨v, k.self, k.rp r⟩
/-- where a name is kept -/
def slotOf (env : Env) (x : Str) : Option Addr := match env.kindOf x with
  | some .local => some env.locals
  | some .cell => env.cells.lookup x
  | _ => none
theorem Upd.keep (k : Upd env x v h h') {b : Addr} {o : Obj} (hb : slotOf env x ≠ some b) (e : h.get? b = some o) : h'.get? b = some o := by
  rcases k with ⟨a, _, s⟩ | ⟨a, c, e', _, _, s⟩
  · exact (s.2 b fun q => hb (by subst q; unfold slotOf; rw [a])).trans e
  · exact (s.2 b fun q => hb (by subst q; unfold slotOf; rw [a]; exact e')).trans e
theorem Upd.al {X : List Addr} (k : Upd env x v h h') (a : Al X h) : Al X h' := fun b hb => by
  obtain ⟨o, e⟩ := a b hb
  rcases k with ⟨_, ⟨m, n1, n2⟩, s⟩ | ⟨_, c, e', _, i, s⟩
  · by_cases q : b = env.locals
    · subst q; obtain ⟨o', _, _, e', _⟩ := n2; exact ⟨o', e'⟩
    · exact ⟨o, (s.2 b q).trans e⟩
  · by_cases q : b = c
    · subst q; obtain ⟨o', e', _⟩ := i; exact ⟨o', e'⟩
    · exact ⟨o, (s.2 b q).trans e⟩
end
theorem Upd.loc {env : Env} {x : Str} {v : Value} {h h' : Heap} (k : Upd env x v h h') (n : ∃ m, h.Ns env.locals m) : ∃ m, h'.Ns env.locals m := by
  obtain ⟨m, n⟩ := n
  rcases k with ⟨_, ⟨m', n1, n2⟩, s⟩ | ⟨_, c, _, ⟨w, i⟩, _, s⟩
  · exact ⟨_, n2⟩
  · exact ⟨m, n.sameBut s fun q => by subst q; exact ns_not_cell n i⟩
/-- x can be stored to -/
def CanStore (env : Env) (h : Heap) (x : Str) : Prop :=
  (env.kindOf x = some .local ∧ ∃ m, h.Ns env.locals m) ∨ (env.kindOf x = some .cell ∧ ∃ c u, env.cells.lookup x = some c ∧ h.IsCell c u)
theorem CanStore.keep {env : Env} {h h' : Heap} {x : Str} (c : CanStore env h x) {Bs : Heap} (k : Kp Bs h h') : CanStore env h' x :=
  c.imp (fun ⟨a, m, n⟩ => ⟨a, m, k.ns n⟩) fun ⟨a, c, u, e, i⟩ => ⟨a, c, u, e, k.cell i⟩
theorem CanStore.but {Bs : Heap} {env : Env} {h h' : Heap} {x : Str} {a : Addr} {Z : Addr → Prop} (c : CanStore env h x) (e : slotOf env x = some a) (hz : ¬ Z a) (k : Kb Bs Z h h') : CanStore env h' x := by
  unfold slotOf at e
  rcases c with ⟨b, m, n⟩ | ⟨b, c, u, e', i⟩
  · rw [b] at e; cases e
    exact .inl ⟨b, m, k.ns hz n⟩
  · rw [b] at e; rw [e'] at e; cases e
    exact .inr ⟨b, a, u, e', k.cell hz i⟩
theorem CanStore.upd {env : Env} {h h' : Heap} {x y : Str} {v : Value} (c : CanStore env h x) (k : Upd env y v h h') : CanStore env h' x := by
  rcases k with ⟨a, ⟨m, n1, n2⟩, s⟩ | ⟨a, c', e, ⟨w, i0⟩, i, s⟩
  · rcases c with ⟨b, m', n⟩ | ⟨b, c, u, e, i⟩
    · exact .inl ⟨b, _, n2⟩
    · exact .inr ⟨b, c, u, e, i.sameBut s fun q => by subst q; exact ns_not_cell n1 i⟩
  · rcases c with ⟨b, m', n⟩ | ⟨b, c, u, e', i'⟩
    · exact .inl ⟨b, m', n.sameBut s fun q => by subst q; exact ns_not_cell n i0⟩
    · by_cases q : c = c'
      · subst q; exact .inr ⟨b, c, _, e', i⟩
      · exact .inr ⟨b, c, u, e', i'.sameBut s q⟩

section
variable {G : Gl} {A : Around} {env : Env} {h₁ : Heap} {X : List Addr} {E : Value → Shared → Prop} {s : Shared}
theorem st_name {x : Str} {v : Value} {Q : Unit → Shared → Prop} (hk : env.scope.kind = .function) (c : CanStore env s.heap x)
    (h : ∀ h' tk, Upd env x v s.heap h' → Q () { s with heap := h', toks := tk }) : wpAny (model G.prog G.w) A (storeName env x v) Q E s := by
  rcases c with ⟨a, m, n⟩ | ⟨a, c, u, e, i⟩
  · exact wpAny_storeName_local a n (fun h' n' s' => h h' _ (.inl ⟨a, ⟨m, n, n'⟩, s'⟩)) (by rw [hk]; rfl)
  · exact wpAny_storeName_cell hk a e i fun h' i' s' => h h' s.toks (.inr ⟨a, c, e, ⟨u, i⟩, i', s'⟩)
theorem st_assign {x : Str} {pos : Pos} {v : Value} {Q : Unit → Shared → Prop} (hk : env.scope.kind = .function) (c : CanStore env s.heap x)
    (h : ∀ h' tk, Upd env x v s.heap h' → Q () { s with heap := h', toks := tk }) : wpAny (model G.prog G.w) A (assign (.Name x pos) env v) Q E s :=
  wpAny_assign_Name (st_name hk c h)
end

/-! what a list, a tuple, a range gives -/
section
variable (G : Gl)
def Src (A : Around) (h₁ : Heap) (X : List Addr) (xv : Value) (ds : List PyData) : Prop :=
  ∀ (s : Shared) (Q : Value → Shared → Prop) (E : Value → Shared → Prop), Kp G.Bs h₁ s.heap →
    (∀ I fp P St, ∀ h' tk, Kp G.Bs s.heap h' → Walks G.prog G.w A I fp [I] ds.length P St → St 0 h' → (∀ b ∈ fp, ∃ o, h'.get? b = some o) → (∀ b ∈ fp, b ≠ I → (∃ o, h₁.get? b = some o) ∧ b ∉ X) → s.heap.get? I = none →
      (∀ i v, P i v → ∃ d, ds[i]? = some d ∧ Rp X h₁ v d) → (∀ i h, St i h → h.get? I = none → False) → (∀ i h b o, St i h → b ∈ fp → h.get? b = some o → NotDict o ∧ ∀ u, o.data ≠ .cell u) → (∀ i h o vs n, St i h → h.get? I = some o → o.data ≠ .seq vs n) →
      (∀ i h elts k p v, St i h → ∀ (s : Shared) Q E, s.heap = h → Q () s → wpAny (model G.prog G.w) A (letOwnedTupleGo (.Tuple elts k p) (.ref I) v) Q E s) → Q (.ref I) { s with heap := h', toks := tk }) →
    wpAny (model G.prog G.w) A (pyIter xv) Q E s
end
theorem own_not {T : String} (hT : ["enumerate", "zip", "dict_itemiterator", "dict_reverseitemiterator", "odict_iterator", "itertools.zip_longest", "itertools.pairwise"].contains T = false) {G : Gl} {A : Around} {s : Shared} {E : Value → Shared → Prop}
    {I : Addr} {elts : List Expr} {k : Nat} {p : Pos} {v : Value} {Q : Unit → Shared → Prop} {o : Obj} {vs : Array Value} (ho : s.heap.get? I = some o) (hc : o.cls = .type T) (hd : o.data = .fields vs) (hQ : Q () s) :
    wpAny (model G.prog G.w) A (letOwnedTupleGo (.Tuple elts k p) (.ref I) v) Q E s := by
  unfold letOwnedTupleGo
  cases v with
  | ref a =>
    refine wpAny_bind (wpAny_load ho ?_)
    rw [hc, hd]
    simp only [hT, Bool.false_and, Bool.false_eq_true, if_false]
    exact wpAny_pure hQ
  | _ => exact wpAny_pure hQ
section
variable {G : Gl} {A : Around} {h₁ : Heap} {X : List Addr}
theorem src_list {v : Value} {ds : List PyData} (hA : A.handled = none) (r : Rp X h₁ v (.list ds)) : Src G A h₁ X v ds := by
  intro s Q E k hQ
  obtain ⟨a, vs, rfl, hx, hl, rl⟩ := r.ofList
  obtain ⟨oa, ea, ca⟩ := id hl
  have ca' : NotDict oa := fun _ _ q => by obtain ⟨_, n, d⟩ := ca; rw [d] at q; cases q
  have hl' : s.heap.IsList a vs.toArray := k.list hl
  have ne : a ≠ s.heap.objs.size := Nat.ne_of_lt (Heap.lt_size (k.ex ea ca'))
  refine wpAny_pyIter_list hl' ?_
  have W := Walks.list (prog := G.prog) (w := G.w) (A := A) hA s.heap.objs.size a ne vs.toArray
  rw [show vs.toArray.size = ds.length by rw [List.size_toArray, rl.length]] at W
  refine hQ _ _ _ _ _ s.toks (Kp.push _) W ⟨⟨_, Heap.get?_push_size _ rfl, rfl, rfl⟩, hl'.push _⟩ (fun b hb => ?_) (fun b hb ne' => ?_) (none_ge (Nat.le_refl _)) (fun i u hu => ?_) (fun i h st e => ?_) (fun i h b o st hb e => ?_) (fun i h o ws n st e => ?_) (fun i h elts kk p v st s' Q' E' e q => ?_)
  · rcases List.mem_cons.mp hb with rfl | hb
    · exact ⟨_, Heap.get?_push_size _ rfl⟩
    · rcases List.mem_cons.mp hb with rfl | hb
      · exact ⟨_, Heap.get?_push_of_some _ (k.ex ea ca')⟩
      · cases hb
  · rcases List.mem_cons.mp hb with rfl | hb
    · exact absurd rfl ne'
    · rcases List.mem_cons.mp hb with rfl | hb
      · exact ⟨⟨_, ea⟩, hx⟩
      · cases hb
  · exact rl.get (by simpa using hu)
  · obtain ⟨⟨o, e', _⟩, _⟩ := st; rw [e] at e'; cases e'
  · obtain ⟨⟨o1, e1, c1, d1⟩, ⟨o2, e2, c2, n2, d2⟩⟩ := st
    rcases List.mem_cons.mp hb with rfl | hb
    · rw [e] at e1; cases e1; exact ⟨fun _ _ q => (by rw [d1] at q; cases q), fun _ q => (by rw [d1] at q; cases q)⟩
    · rcases List.mem_cons.mp hb with rfl | hb
      · rw [e] at e2; cases e2; exact ⟨fun _ _ q => (by rw [d2] at q; cases q), fun _ q => (by rw [d2] at q; cases q)⟩
      · cases hb
  · obtain ⟨⟨o', e', _, d'⟩, _⟩ := st; rw [e] at e'; cases e'; rw [d']; exact fun q => nomatch q
  · obtain ⟨⟨o', e', c', d'⟩, _⟩ := st; subst e
    exact own_not (T := "list_iterator") (by decide) e' c' d' q
end
end Mine
namespace Mine

/-- the targets that are met: a name, a pair of names -/
def TV (X : List Addr) (env : Env) (h : Heap) : Expr → PyData → Prop
  | .Name x _, d => Var X env h x d
  | .Tuple [.Name x _, .Name y _] _ _, .tuple [d1, d2] => Var X env h x d1 ∧ Var X env h y d2
  | _, _ => False
def tnames : Expr → List Str
  | .Name x _ => [x]
  | .Tuple [.Name x _, .Name y _] _ _ => [x, y]
  | _ => []
def TShape : Expr → PyData → Prop
  | .Name _ _, _ => True
  | .Tuple [.Name x _, .Name y _] _ _, .tuple [_, _] => x ≠ y
  | _, _ => False

theorem TV.keep {Bs : Heap} {X : List Addr} {env : Env} {h h' : Heap} {t : Expr} {d : PyData} (v : TV X env h t d) (k : Kp Bs h h') : TV X env h' t d := by
  unfold TV at v ⊢
  split at v
  · exact Var.keep v k
  · exact ⟨Var.keep v.1 k, Var.keep v.2 k⟩
  · exact v.elim
/-- some slots of the frame are stored to, some lists of its own changed -/
structure Chg (Bs : Heap) (env : Env) (xs : List Str) (Y : List Addr) (h h' : Heap) : Prop where
  st : Stays Y h h'
  look : ∀ {y u}, Apart env → y ∉ xs → Look env h y u → Look env h' y u
  can : ∀ {y}, CanStore env h y → CanStore env h' y
  keep : Kb Bs (fun b => (∃ x ∈ xs, slotOf env x = some b) ∨ b ∈ Y) h h'
  al : ∀ {X}, Al X h → Al X h'
  loc : (∃ m, h.Ns env.locals m) → ∃ m, h'.Ns env.locals m
section
variable {Bs : Heap} {env : Env} {xs ys : List Str} {h h' a b c : Heap} {X Y Y' : List Addr}
theorem Chg.staysX (p : Chg Bs env xs Y h h') (hs : ∀ y ∈ Y, (∃ vs, h.IsList y vs) → y ∈ X) : Stays X h h' := fun q o vs n e d c => p.st q o vs n e d (c.imp id fun ⟨c1, c2⟩ => ⟨c1, fun m => c2 (hs q m ⟨vs, o, e, c1, n, d⟩)⟩)
theorem Chg.stays (p : Chg Bs env xs Y h h') (hs : ∀ y ∈ Y, y ∈ X) : Stays X h h' := p.staysX fun y m _ => hs y m
theorem nosub : ∀ y ∈ ([] : List Addr), y ∈ X := fun _ q => nomatch q
theorem Chg.rp {u : Value} {d : PyData} (p : Chg Bs env xs [] h h') (r : Rp X h u d) : Rp X h' u d := r.stays (p.stays nosub)
theorem Chg.rpL {u : List Value} {d : List PyData} (p : Chg Bs env xs [] h h') (r : RpL X h u d) : RpL X h' u d := r.stays (p.stays nosub)
theorem Stays.trans (x : Stays X a b) (y : Stays X b c) : Stays X a c := fun p o vs n e d k => y p o vs n (x p o vs n e d k) d k
theorem Chg.ofKp (k : Kp Bs h h') : Chg Bs env [] [] h h' := ⟨k.stays, fun _ _ l => l.keep k, fun c => c.keep k, Kb.of k, fun a => a.keep k, fun ⟨m, n⟩ => ⟨m, k.ns n⟩⟩
theorem Chg.refl (h : Heap) : Chg Bs env [] [] h h := Chg.ofKp (Kp.refl h)
theorem Chg.ofUpd {x : Str} {v : Value} (k : Upd env x v h h') : Chg Bs env [x] [] h h' :=
  ⟨k.stays.mono, fun ap hy l => k.look (.inl ap) (fun q => hy (q ▸ List.mem_singleton.mpr rfl)) l, fun c => c.upd k, fun b o hb e => ⟨o, k.keep (fun q => hb (.inl ⟨x, List.mem_singleton.mpr rfl, q⟩)) e, .refl⟩, fun a => k.al a, fun n => k.loc n⟩
theorem Chg.trans (p : Chg Bs env xs Y a b) (q : Chg Bs env ys Y' b c) : Chg Bs env (xs ++ ys) (Y ++ Y') a c :=
  ⟨(p.stays fun y m => List.mem_append_left _ m).trans (q.stays fun y m => List.mem_append_right _ m), fun ap hy l => q.look ap (fun m => hy (List.mem_append_right _ m)) (p.look ap (fun m => hy (List.mem_append_left _ m)) l), fun x => q.can (p.can x),
    (p.keep.weak fun _ k => k.imp (fun ⟨x, m, e⟩ => ⟨x, List.mem_append_left _ m, e⟩) fun m => List.mem_append_left _ m).trans (q.keep.weak fun _ k => k.imp (fun ⟨x, m, e⟩ => ⟨x, List.mem_append_right _ m, e⟩) fun m => List.mem_append_right _ m), fun x => q.al (p.al x), fun n => q.loc (p.loc n)⟩
theorem Chg.var {y : Str} {d : PyData} (p : Chg Bs env xs Y a b) (ap : Apart env) (hy : y ∉ xs) (hs : ∀ y ∈ Y, y ∈ X) (l : Var X env a y d) : Var X env b y d := l.imp fun _ z => ⟨p.look ap hy z.1, z.2.stays (p.stays hs)⟩
theorem Chg.sub (p : Chg Bs env xs Y a b) (s : ∀ x ∈ xs, x ∈ ys) (s' : ∀ x ∈ Y, x ∈ Y') : Chg Bs env ys Y' a b := ⟨p.stays s', fun ap hy => p.look ap fun m => hy (s _ m), p.can, p.keep.weak fun _ k => k.imp (fun ⟨x, m, e⟩ => ⟨x, s x m, e⟩) (s' _), p.al, p.loc⟩
/-- what was not there counts for nothing -/
theorem Chg.drop (p : Chg Bs env xs Y' a b) (s : ∀ y ∈ Y', y ∈ Y ∨ a.get? y = none) : Chg Bs env xs Y a b :=
  ⟨p.staysX fun y m ⟨vs, o, e, _⟩ => (s y m).resolve_right (fun q => by rw [q] at e; cases e), p.look, p.can, fun q o hz e => p.keep q o (fun z => hz (z.imp id fun m => (s q m).resolve_right (fun n => by rw [n] at e; cases e))) e, p.al, p.loc⟩
/-- an object that is no list, no name's place is changed -/
theorem Chg.iter {I : Addr} {o : Obj} (e : a.get? I = some o) (n1 : NotDict o) (n2 : ∀ u, o.data ≠ .cell u) (n3 : ∀ vs n, o.data ≠ .seq vs n) (e' : ∃ o', b.get? I = some o') (kb : Kb Bs (· = I) a b) : Chg Bs env [] [I] a b := by
  have nd : ∀ {m}, a.Ns I m → False := fun {m} n => by
    obtain ⟨o', _, _, q, d, _⟩ := n; rw [e] at q; cases q; exact n1 _ _ d
  have nc : ∀ {u}, a.IsCell I u → False := fun {m} n => by
    obtain ⟨o', q, d⟩ := n; rw [e] at q; cases q; exact n2 _ d
  refine ⟨fun p o' vs n q d _ => kb.ex (fun z => ?_) q (fun _ _ z => by rw [d] at z; cases z), fun ap hy l => ?_, fun c => ?_, kb.weak fun p q => .inr (q ▸ List.mem_singleton.mpr rfl), fun {X} al p hp => ?_, fun ⟨m, n⟩ => ⟨m, kb.ns (fun q => nd (q ▸ n)) n⟩⟩
  · subst z; rw [e] at q; cases q; exact n3 _ _ d
  · rcases l with ⟨b, m', n', e'⟩ | ⟨b, c', e', i'⟩
    · exact .inl ⟨b, m', kb.ns (fun q => nd (q ▸ n')) n', e'⟩
    · exact .inr ⟨b, c', e', kb.cell (fun q => nc (q ▸ i')) i'⟩
  · rcases c with ⟨b, m, n⟩ | ⟨b, c, u, e, i⟩
    · exact .inl ⟨b, m, kb.ns (fun q => nd (q ▸ n)) n⟩
    · exact .inr ⟨b, c, u, e, kb.cell (fun q => nc (q ▸ i)) i⟩
  · obtain ⟨o, q⟩ := al p hp
    by_cases z : p = I
    · subst z; exact e'
    · obtain ⟨o', q', _⟩ := kb p o z q; exact ⟨o', q'⟩
/-- a list of one's own is changed -/
theorem Chg.mut {D : Addr} {vs vs' : Array Value} (hl : a.IsList D vs) (hl' : b.IsList D vs') (s : Heap.SameBut D a b) : Chg Bs env [] [D] a b := by
  have nd : ∀ {m}, a.Ns D m → False := fun {m} n => by
    obtain ⟨o, _, _, e, d, _⟩ := n; obtain ⟨o', e', _, n, d'⟩ := hl; rw [e] at e'; cases e'; rw [d] at d'; cases d'
  have nc : ∀ {u}, a.IsCell D u → False := fun {m} n => by
    obtain ⟨o, e, d⟩ := n; obtain ⟨o', e', _, n, d'⟩ := hl; rw [e] at e'; cases e'; rw [d] at d'; cases d'
  refine ⟨fun p o vs n e d k => ?_, fun ap hy l => ?_, fun c => ?_, fun p o hz e => ⟨o, (s.2 p fun q => hz (.inr (q ▸ List.mem_singleton.mpr rfl))).trans e, .refl⟩, fun {X} al p hp => ?_, fun ⟨m, n⟩ => ⟨m, n.sameBut s fun q => nd (q ▸ n)⟩⟩
  · refine (s.2 p fun q => ?_).trans e
    subst q
    obtain ⟨o', e', c', _⟩ := hl
    rw [e] at e'; cases e'
    rcases k with k | k
    · rw [c'] at k; exact absurd k (by simp)
    · exact k.2 (List.mem_singleton.mpr rfl)
  · rcases l with ⟨b, m', n', e'⟩ | ⟨b, c', e', i'⟩
    · exact .inl ⟨b, m', n'.sameBut s fun q => nd (q ▸ n'), e'⟩
    · exact .inr ⟨b, c', e', i'.sameBut s fun q => nc (q ▸ i')⟩
  · rcases c with ⟨b, m, n⟩ | ⟨b, c, u, e, i⟩
    · exact .inl ⟨b, m, n.sameBut s fun q => nd (q ▸ n)⟩
    · exact .inr ⟨b, c, u, e, i.sameBut s fun q => nc (q ▸ i)⟩
  · obtain ⟨o, e⟩ := al p hp
    by_cases q : p = D
    · subst q; obtain ⟨o', e', _⟩ := hl'; exact ⟨o', e'⟩
    · exact ⟨o, (s.2 p q).trans e⟩
end

section
variable {G : Gl} {A : Around} {env : Env} {X : List Addr} {E : Value → Shared → Prop} {s : Shared}
theorem asg {t : Expr} {d : PyData} {v : Value} {Q : Unit → Shared → Prop} (hA : A.handled = none) (hk : env.scope.kind = .function) (ap : Apart env ∨ (∀ x ∈ tnames t, env.kindOf x = some .local) ∨ ∃ x p, t = .Name x p) (c : ∀ x ∈ tnames t, CanStore env s.heap x) (sh : TShape t d)
    (r : Rp X s.heap v d) (h : ∀ h' tk, Chg G.Bs env (tnames t) [] s.heap h' → TV X env h' t d → Q () { s with heap := h', toks := tk }) : wpAny (model G.prog G.w) A (assign t env v) Q E s := by
  unfold TShape at sh
  split at sh
  · rename_i x p
    refine st_assign hk (c x (List.mem_singleton.mpr rfl)) fun h' tk u => h h' tk (Chg.ofUpd u) (u.new r)
  · rename_i x px y py kk p d1 d2
    obtain ⟨a, vs, rfl, ht, rl⟩ := r.ofTuple
    obtain ⟨v1, vs', rfl, r1, rl⟩ := rl.cons_inv
    obtain ⟨v2, vs'', rfl, r2, rl⟩ := rl.cons_inv
    rw [rl.nil_inv] at ht
    refine assign_Tuple_tuple hA ht rfl rfl fun h₁ e₁ => ?_
    have k₁ : Kp G.Bs s.heap h₁ := Kp.of fun b o e => e₁ b o (Nat.ne_of_lt (Heap.lt_size e)) e
    show wpAny (model G.prog G.w) A (assignInOrder [assign (.Name x px) env, assign (.Name y py) env] [v1, v2]) Q E _
    refine assignInOrder_cons (st_assign hk ((c x List.mem_cons_self).keep k₁) fun h₂ tk₂ u₂ => ?_)
    refine assignInOrder_cons (st_assign hk (((c y (List.mem_cons_of_mem _ List.mem_cons_self)).keep k₁).upd u₂) fun h₃ tk₃ u₃ => ?_)
    refine assignInOrder_nil (h h₃ tk₃ ?_ ?_)
    · exact ((Chg.ofKp k₁).trans (Chg.ofUpd u₂)).trans (Chg.ofUpd u₃)
    · refine ⟨u₃.var ?_ sh (u₂.new (r1.keep k₁)), u₃.new (u₂.rp (r2.keep k₁))⟩
      rcases ap with ap | ap | ⟨_, _, ap⟩
      · exact .inl ap
      · exact .inr (ap y (List.mem_cons_of_mem _ List.mem_cons_self))
      · cases ap
  · exact sh.elim
end

/-! the range -/
def dInts (ns : List Int) : PyData := .list (ns.map .int)
def upto (n : Nat) : List PyData := (List.range n).map fun i => .int (i : Nat)
section
variable {G : Gl} {A : Around} {h₁ : Heap} {X : List Addr} {K : Frag} {env : Env}
theorem src_range {r : Addr} {n : Nat} {t u v : Tok} (hA : A.handled = none) (hn : n < 2 ^ 61) (hr : IsRange h₁ r 0 n 1 t u v) : Src G A h₁ X (.ref r) (upto n) := by
  intro s Q E k hQ
  have sz : Builtin.Range.rangeSize 0 (n : Int) 1 = n := by rw [rangeSize_one]; split <;> omega
  refine wpAny_pyIter_range (k.ex hr fun _ _ q => nomatch q) (small_one (by omega) (by omega) (by omega) (by omega)) ?_
  rw [sz]
  have W := (Walks.range (prog := G.prog) (w := G.w) (A := A) hA s.heap.objs.size 0 1 n).bound
  have hl : (upto n).length = n := by simp [upto]
  rw [← hl] at W
  refine hQ _ _ _ _ _ s.toks (Kp.push _) W ?_ (fun b hb => ?_) (fun b hb ne' => ?_) (none_ge (Nat.le_refl _)) (fun i u hu => ?_) (fun i h st e => ?_) (fun i h b o st hb e => ?_) (fun i h o ws n st e => ?_) (fun i h elts kk p v st s' Q' E' e q => ?_)
  · show IsRangeIter _ _ _ _ _
    rw [hl]
    simpa using Heap.get?_push_size _ rfl
  · rw [List.mem_singleton.mp hb]; exact ⟨_, Heap.get?_push_size _ rfl⟩
  · exact absurd (List.mem_singleton.mp hb) ne'
  · obtain ⟨hi, t, rfl⟩ := hu
    rw [hl] at hi
    refine ⟨.int (i : Nat), by simp [upto, hi], ?_⟩
    have : (0 : Int) + (i : Nat) * 1 = (i : Nat) := by omega
    rw [this]; exact Rp.int _ _
  · have : h.get? s.heap.objs.size = some _ := st
    rw [e] at this; cases this
  · have : h.get? s.heap.objs.size = some _ := st
    rw [List.mem_singleton.mp hb, this] at e; cases e; exact ⟨fun _ _ q => (nomatch q), fun _ q => (nomatch q)⟩
  · have : h.get? s.heap.objs.size = some _ := st
    rw [e] at this; cases this; exact fun q => nomatch q
  · subst e
    exact own_not (T := "range_iterator") (by decide) st rfl rfl q
theorem does_range {n : Int} {v : Value} (r : Rp X h₁ v (.int n)) : Does G A h₁ (call (.type "range") [v]) (fun h x => ∃ r t u z, x = .ref r ∧ IsRange h r 0 n 1 t u z) := fun s Q E k hQ => by
  obtain ⟨t, rfl⟩ := r.ofInt
  exact call_range_1 (hQ _ _ _ (Kp.push _) ⟨_, _, _, _, rfl, IsRange.new ..⟩)
theorem ev_range {e : Expr} {pos p : Pos} {n : Int} (W : Wd K G.Bs) (hb : Kp G.Bs G.Bs h₁) (he : Ev G A env h₁ X e (.int n)) (eg : nsIn K mainGlobals "range" = some none)
    (hx : env.kindOf "range" = some .globalImplicit := by rfl) (hg : env.globals = mainGlobals := by rfl) (hbu : env.builtins = builtinsNs := by rfl) (hk : env.scope.kind = .function := by rfl)
    (hs : starEach [e] env = (false, eval e env) :: starEach [] env := by rfl) :
    Does G A h₁ (eval (.Call (.Name "range" p) [e] [] pos) env) (fun h x => ∃ r t u z, x = .ref r ∧ IsRange h r 0 n 1 t u z) :=
  ev_callT (ev_built W hb eg boot_range hg hbu hk hx) (ar_cons he ar_nil hs) (fun vs h k r => by
    obtain ⟨v, vs', rfl, r1, rl⟩ := r.cons_inv
    rw [rl.nil_inv]
    exact does_range r1) hs
end
end Mine
namespace Mine

section
variable {G : Gl} {A : Around} {R : Result → Shared → Prop} {s : Shared} {E : Value → Shared → Prop}

/-- the tests of a clause -/
abbrev testsOf (ifs : List Expr) (env : Env) : Sem Bool := forIn ifs true fun c r => if r = true then do let ok ← isTrue c env (eval c env); pure (ForInStep.yield ok) else pure (ForInStep.yield r)
def Tests (G : Gl) (A : Around) (env : Env) (h : Heap) : List Expr → Bool → Prop
  | [], b => b = true
  | [t], b => Tr G A env h t b
  | _, _ => False
theorem Tests.does {env : Env} {h : Heap} {ifs : List Expr} {b : Bool} (t : Tests G A env h ifs b) : Does G A h (testsOf ifs env) (fun _ c => c = b) := by
  intro s Q E k hQ
  unfold Tests at t
  split at t
  · subst t; exact wpAny_tests_nil (hQ true s.heap s.toks (Kp.refl _) rfl)
  · exact wpAny_tests_one (t s Q E k hQ)
  · exact t.elim

theorem comp_loop {elt target iter : Expr} {ifs : List Expr} {scope : Scope} {pos : Pos} {it acc : Value} {env : Env} (I : Nat → Shared → Prop)
    (turn : ∀ n s, I n s → ∀ F : Value → Shared → Prop, wpAny (model G.prog G.w) A (pyNext it) (fun r s₁ => match r with
      | none => R (.ok .next) s₁
      | some v => wpAny (model G.prog G.w) A (letOwnedTupleGo target it v) (fun _ s₁' => wpAny (model G.prog G.w) A (assign target env v) (fun _ s₂ =>
          wpAny (model G.prog G.w) A (testsOf ifs env) (fun ok s₃ =>
            if ok = true then wpAny (model G.prog G.w) A (eval elt env) (fun x s₄ => wpAny (model G.prog G.w) A (call (.builtin "list.append") [acc, x]) (fun _ s₅ => ∃ m, m < n ∧ I m s₅) F s₄) F s₃
            else ∃ m, m < n ∧ I m s₃) F s₂) F s₁') F s₁) F s)
    (n : Nat) (h : I n s) : codeAny (model G.prog G.w) A (.compLoop (.ListComp elt [⟨target, iter, ifs, 0⟩] scope pos) 0 it acc env) R s := by
  refine codeAny_loop rfl I (fun n s hI => ?_) n h
  show wpAny _ A ((compTurn (.ListComp elt [⟨target, iter, ifs, 0⟩] scope pos) 0 it acc env).onRaise (fun x => do noteFrame x env; theTreesLotGoes x)) _ _ s
  refine wpAny_noted ?_
  rw [compTurn_list]
  refine wpAny_bind (wpAny_standAt (wpAny_bind (wpAny_mono (turn n s hI _) (fun r s₁ h₁ => ?_) fun _ _ h' => h')))
  cases r with
  | none => exact wpAny_pure h₁
  | some v =>
    refine wpAny_bind (wpAny_mono h₁ (fun _ s₁' h₁' => ?_) fun _ _ h' => h')
    refine wpAny_bind (wpAny_mono h₁' (fun _ s₂ h₂ => ?_) fun _ _ h' => h')
    refine wpAny_bind (wpAny_mono h₂ (fun ok s₃ h₃ => ?_) fun _ _ h' => h')
    cases ok with
    | false => exact wpAny_pure ⟨rfl, h₃⟩
    | true => exact wpAny_bind (wpAny_bind (wpAny_mono h₃ (fun x s₄ h₄ => wpAny_bind (wpAny_mono h₄ (fun _ s₅ h₅ => wpAny_pure (wpAny_pure ⟨rfl, h₅⟩)) fun _ _ h' => h')) fun _ _ h' => h'))

/-- the block's own environment, its own cells too -/
theorem comp_env {scope : Scope} {g : Addr} {cl : List (Str × Addr)} {q : Str} {env : Env} {Q : Env → Shared → Prop}
    (h : Q (newEnv scope s.heap.objs.size g (cellsFrom (s.heap.objs.size + 1) scope.names cl) q none .none (some env) builtinsNs) { s with heap := pushCells (s.heap.push { cls := .type "dict", data := .dict #[] }) scope.names }) :
    wpAny (model G.prog G.w) A (newFunctionEnv scope g cl [] q none .none (some env)) Q E s := by
  simp only [newFunctionEnv, Option.isSome_some, if_true]
  refine wpAny_bind (wpAny_alloc ?_)
  refine wpAny_bind (wpAny_layCells _ (fun name kind cells => by cases kind == NameKind.cell <;> simp) _ _ _ _ ?_)
  rw [show ({ s with heap := s.heap.push { cls := .type "dict", data := .dict #[] } } : Shared).heap.objs.size = s.heap.objs.size + 1 from Heap.size_push ..]
  exact wpAny_bind (by rw [List.forIn_nil]; exact wpAny_pure (wpAny_pure h))
end

theorem isList_stays {h h' : Heap} {D : Addr} {vs : Array Value} (hl : h.IsList D vs) (s : Heap.SameBut D h h') {X : List Addr} : Stays (D :: X) h h' := fun a o ws n e d c => by
  refine (s.2 a fun q => ?_).trans e
  subst q
  obtain ⟨o', e', c', _⟩ := hl
  rw [e] at e'; cases e'
  rcases c with c | c
  · rw [c'] at c; exact absurd c (by simp)
  · exact c.2 List.mem_cons_self
theorem own_ok {G : Gl} {A : Around} {E : Value → Shared → Prop} {target : Expr} {d : PyData} (sh : TShape target d) {I : Addr} {v : Value} {s : Shared} {Q : Unit → Shared → Prop}
    (hown : ∀ elts k p v, ∀ (Q : Unit → Shared → Prop) E, Q () s → wpAny (model G.prog G.w) A (letOwnedTupleGo (.Tuple elts k p) (.ref I) v) Q E s) (hQ : Q () s) : wpAny (model G.prog G.w) A (letOwnedTupleGo target (.ref I) v) Q E s := by
  unfold TShape at sh
  split at sh
  · exact wpAny_pure hQ
  · exact hown _ _ _ _ _ _ hQ
  · exact sh.elim
theorem none_of_kp {Bs h h' : Heap} {a : Addr} (k : Kp Bs h h') (n : h'.get? a = none) : h.get? a = none := by
  cases e : h.get? a with
  | none => rfl
  | some o => obtain ⟨o', e', _⟩ := k _ _ e; rw [n] at e'; cases e'

section
variable {G : Gl} {A : Around} {E : Value → Shared → Prop} {env : Env} {X : List Addr}

/-- what the block does with one item, in its own environment -/
structure Turn (G : Gl) (A : Around) (cenv : Addr → Env) (h₁ : Heap) (X : List Addr) (target elt : Expr) (ifs : List Expr) (p : Bool) (f : PyData) (d : PyData) : Prop where
  shape : TShape target d
  test : ∀ C D h, Kp G.Bs h₁ h → h₁.get? D = none → h₁.get? C = none → Al (D :: X) h → TV (D :: X) (cenv C) h target d → Tests G A (cenv C) h ifs p
  elt : ∀ C D h, p = true → Kp G.Bs h₁ h → h₁.get? D = none → h₁.get? C = none → Al (D :: X) h → TV (D :: X) (cenv C) h target d → Ev G A (cenv C) h (D :: X) elt f

theorem comp_block {elt iter target : Expr} {ifs : List Expr} {scope : Scope} {cl : List (Str × Addr)} {pos : Pos} {xv : Value} {α : Type} {xs : List α} {enc : α → PyData} {s₁ : Shared} (p : α → Bool) (f : α → PyData) {RR : Value → Addr → Result → Shared → Prop}
    (hA : A.handled = none) (hX : Al X s₁.heap) (src : Src G A s₁.heap X xv (xs.map enc)) (hsz : xs.length ≤ sizeLine) (hkind : scope.kind = .function)
    (hap : ∀ C, (∀ x ∈ tnames target, (compEnvC scope (cellsFrom (C + 1) scope.names cl) C env).kindOf x = some .local) ∨ ∃ x p, target = .Name x p)
    (hcan : ∀ (h : Heap) (C : Addr), h.objs.size = C + 1 → (∃ m, h.Ns C m) → ∀ x ∈ tnames target, CanStore (compEnvC scope (cellsFrom (C + 1) scope.names cl) C env) (pushCells h scope.names) x)
    (hslot : ∀ C, ∀ x ∈ tnames target, ∃ a, slotOf (compEnvC scope (cellsFrom (C + 1) scope.names cl) C env) x = some a ∧ C ≤ a)
    (turn : ∀ z ∈ xs, Turn G A (fun C => compEnvC scope (cellsFrom (C + 1) scope.names cl) C env) s₁.heap X target elt ifs (p z) (f z) (enc z))
    (hRR : ∀ D C h' tk ys, s₁.heap.get? D = none → s₁.heap.get? C = none → D ≠ C → Kp G.Bs s₁.heap h' → (∃ m, h'.Ns C m) → h'.IsList D (List.toArray ys) → RpL (D :: X) h' ys ((xs.filter p).map f) → RR (.ref D) C (.ok .next) { s₁ with heap := h', toks := tk }) :
    wpAny (model G.prog G.w) A (pyIter xv) (fun it s₂ => wpAny (model G.prog G.w) A (newList []) (fun acc s₃ => wpAny (model G.prog G.w) A (newFunctionEnv scope env.globals cl [] env.qual none .none (some env)) (fun cenv s₄ =>
      codeAny (model G.prog G.w) A (.compStart (.ListComp elt [⟨target, iter, ifs, 0⟩] scope pos) 0 it acc { cenv with scope := relabel scope env }) (RR acc cenv.locals) s₄) E s₃) E s₂) E s₁ := by
  refine src s₁ _ E (Kp.refl _) fun I fp P St h₂ tk₂ k₂ W st₂ hfp hfo hI hP hStI hStF hStS hown => ?_
  rw [List.length_map] at W
  refine wpAny_newObj_type (hd := by size_fits) (comp_env ?_)
  dsimp only
  generalize hH3 : h₂.push { cls := .type "list", dict := none, data := .seq ([] : List Value).toArray } = h₃
  have z3 : h₃.objs.size = h₂.objs.size + 1 := by rw [← hH3, Heap.size_push]
  generalize hH4 : h₃.push { cls := .type "dict", data := .dict #[] } = h₄
  have z4 : h₄.objs.size = h₃.objs.size + 1 := by rw [← hH4, Heap.size_push]
  generalize hH5 : pushCells h₄ scope.names = h₅
  have k3 : ∀ b o, h₂.get? b = some o → h₃.get? b = some o := fun b o e => hH3 ▸ Heap.get?_push_of_some _ e
  have k4 : ∀ b o, h₃.get? b = some o → h₄.get? b = some o := fun b o e => hH4 ▸ Heap.get?_push_of_some _ e
  have k5 : ∀ b o, h₄.get? b = some o → h₅.get? b = some o := hH5 ▸ pushCells_keeps _ _
  have k25 : ∀ b o, h₂.get? b = some o → h₅.get? b = some o := fun b o e => k5 b o (k4 b o (k3 b o e))
  have k15 : Kp G.Bs s₁.heap h₅ := k₂.trans (Kp.of k25)
  have new2 : ∀ a, h₂.objs.size ≤ a → s₁.heap.get? a = none := fun a ha => none_of_kp k₂ (none_ge ha)
  have nD : s₁.heap.get? h₂.objs.size = none := new2 _ (Nat.le_refl _)
  have nC : s₁.heap.get? h₃.objs.size = none := new2 _ (by omega)
  have hDC : h₂.objs.size ≠ h₃.objs.size := by omega
  have nC4 : h₄.Ns h₃.objs.size (fun _ => none) := hH4 ▸ Heap.Ns.new h₃ _
  have can5 := hcan h₄ h₃.objs.size z4 ⟨_, nC4⟩
  rw [hH5] at can5
  have hns5 : h₅.Ns h₃.objs.size (fun _ => none) := nC4.keeps k5
  have hacc5 : h₅.IsList h₂.objs.size #[] := ⟨_, k5 _ _ (k4 _ _ (hH3 ▸ Heap.get?_push_size _ rfl)), rfl, _, rfl⟩
  have hIfp : I ∈ fp := W.sub I (List.mem_singleton.mpr rfl)
  have hIlt : I < h₂.objs.size := by obtain ⟨o, e⟩ := hfp I hIfp; exact Heap.lt_size e
  have fpSlot : ∀ b ∈ fp, b ≠ I → ∃ o, s₁.heap.get? b = some o := fun b hb q => (hfo b hb q).1
  have fpOff : ∀ b ∈ fp, ∀ a, h₂.objs.size ≤ a → b ≠ a := fun b hb a ha q => by
    subst q
    by_cases q : b = I
    · subst q; exact absurd hIlt (Nat.not_lt.mpr ha)
    · obtain ⟨o, e⟩ := fpSlot b hb q; rw [new2 b ha] at e; cases e
  generalize hC : h₃.objs.size = C at *
  generalize hD : h₂.objs.size = D at *
  have hDlt : D < C := by omega
  have hID : D ≠ I := Nat.ne_of_gt hIlt
  have hIC : C ≠ I := Nat.ne_of_gt (Nat.lt_trans hIlt hDlt)
  have hge : ∀ a : Nat, C ≤ a → a ≠ I := fun a ha => Nat.ne_of_gt (Nat.lt_of_lt_of_le (Nat.lt_trans hIlt hDlt) ha)
  have hgD : ∀ a : Nat, C ≤ a → a ≠ D := fun a ha => Nat.ne_of_gt (Nat.lt_of_lt_of_le hDlt ha)
  have hslotC := hslot C
  generalize hcenv : compEnvC scope (cellsFrom (C + 1) scope.names cl) C env = cenv at *
  have hloc : cenv.locals = C := by rw [← hcenv]; rfl
  have hkc : cenv.scope.kind = .function := by rw [← hcenv]; exact hkind
  have slotNew : ∀ x ∈ tnames target, ∀ b o, s₁.heap.get? b = some o → slotOf cenv x ≠ some b := fun x hx b o e q => by
    obtain ⟨a, ea, ha⟩ := hslotC x hx
    rw [q] at ea; cases ea
    rw [new2 b (by omega)] at e; cases e
  have slotOff : ∀ x ∈ tnames target, ∀ b, b < C → slotOf cenv x ≠ some b := fun x hx b hb q => by
    obtain ⟨a, ea, ha⟩ := hslotC x hx
    rw [q] at ea; cases ea; omega
  have loop : ∀ tk, codeAny (model G.prog G.w) A (.compLoop (.ListComp elt [⟨target, iter, ifs, 0⟩] scope pos) 0 (.ref I) (.ref D) cenv) (RR (.ref D) C) { s₁ with heap := h₅, toks := tk } := by
    intro tk
    refine comp_loop (fun k s' => ∃ h t i ys, s' = { s₁ with heap := h, toks := t } ∧ i ≤ xs.length ∧ k = xs.length + 1 - i ∧ St i h ∧ Kp G.Bs s₁.heap h ∧ h.IsList D (List.toArray ys) ∧ RpL (D :: X) h ys (((xs.take i).filter p).map f) ∧
      (∃ m, h.Ns C m) ∧ ∀ x ∈ tnames target, CanStore cenv h x) ?_ (xs.length + 1) ⟨h₅, tk, 0, [], rfl, Nat.zero_le _, rfl, W.frame _ _ _ st₂ fun b _ o e => k25 b o e, k15, hacc5, RpL.nil, ⟨_, hns5⟩, can5⟩
    rintro k s' ⟨h, t, i, ys, rfl, hi, rfl, st, kp, hl, rl, hns, can⟩ F
    by_cases hlt : i < xs.length
    · refine W.item i _ _ F hlt st fun v h' t' hPv st' kb => ?_
      obtain ⟨d, ed, rd⟩ := hP i v hPv
      rw [List.getElem?_map] at ed
      obtain ⟨z, ez, rfl⟩ := Option.map_eq_some_iff.mp ed
      have T := turn z (List.mem_of_getElem? ez)
      have kb' : ∀ b o, b ≠ I → h.get? b = some o → h'.get? b = some o := fun b o hb e => kb b o (by simpa using hb) e
      have kbI : Kb G.Bs (· = I) h h' := fun b o hb e => ⟨o, kb' b o hb e, .refl⟩
      have kp' : Kp G.Bs s₁.heap h' := kbI.kp kp fun b q => by rw [q]; exact hI
      have hl' : h'.IsList D (List.toArray ys) := hl.at fun o e => kb' _ o hID e
      have rl' : RpL (D :: X) h' ys (((xs.take i).filter p).map f) := rl.stays fun a o vs n e dd _ => kb' a o (fun q => by subst q; exact hStS i h o vs n st e dd) e
      have hns' : ∃ m, h'.Ns C m := hns.imp fun m n => n.at' fun o e => kb' _ o hIC e
      have can' : ∀ x ∈ tnames target, CanStore cenv h' x := fun x hx => by
        obtain ⟨a, ea, ha⟩ := hslotC x hx
        exact (can x hx).but ea (hge a ha) kbI
      dsimp only
      refine own_ok T.shape (fun elts kk pp v' Q' E' q => hown (i + 1) h' elts kk pp v' st' _ Q' E' rfl q) ?_
      refine asg hA hkc (.inr (hap C |>.imp_left fun g => by rw [hcenv] at g; exact g)) can' T.shape ((rd.fresh nD).keep kp') fun h₆ t₆ ch tv => ?_
      have kp6 : Kp G.Bs s₁.heap h₆ := ch.keep.kp kp' fun b z => by
        obtain ⟨x, hx, q⟩ := z.resolve_right (fun m => nomatch m)
        obtain ⟨a, ea, ha⟩ := hslotC x hx
        rw [q] at ea; cases ea; exact new2 _ (by omega)
      have hl6 : h₆.IsList D (List.toArray ys) := ch.keep.list (fun z => z.elim (fun ⟨x, hx, q⟩ => slotOff x hx D hDlt q) fun m => nomatch m) hl'
      have rl6 := ch.rpL rl'
      have hns6 : ∃ m, h₆.Ns C m := by have := ch.loc (by rw [hloc]; exact hns'); rw [hloc] at this; exact this
      have can6 : ∀ x ∈ tnames target, CanStore cenv h₆ x := fun x hx => ch.can (can' x hx)
      have st6 : St (i + 1) h₆ := W.frame _ _ _ st' fun b hb o e => ch.keep.ex (fun z => by
        obtain ⟨x, hx, q⟩ := z.resolve_right (fun m => nomatch m)
        obtain ⟨a, ea, ha⟩ := hslotC x hx
        rw [q] at ea; cases ea
        exact fpOff b hb b (by omega) rfl) e (hStF _ _ b o st' hb e).1
      have al6 : Al (D :: X) h₆ := by obtain ⟨o, e, _⟩ := hl6; exact Al.cons e (hX.keep kp6)
      have ts := T.test C D h₆ kp6 nD nC al6 (by rw [hcenv]; exact tv)
      rw [hcenv] at ts
      refine ts.does _ _ F (Kp.refl _) fun ok h₇ t₇ k7 e7 => ?_
      subst e7
      have mem : (xs.take (i + 1)).filter p = (xs.take i).filter p ++ (if p z = true then [z] else []) := by
        rw [List.take_add_one, ez, List.filter_append]
        cases hp : p z <;> simp [hp]
      by_cases hp : p z = true
      · rw [if_pos hp]
        have el := T.elt C D h₇ hp (kp6.trans k7) nD nC (al6.keep k7) (by rw [hcenv]; exact tv.keep k7)
        rw [hcenv] at el
        refine el _ _ F (Kp.refl _) fun y h₈ t₈ k8 ry => ?_
        have k78 := k7.trans k8
        have hl8 : h₈.IsList D (List.toArray ys) := k78.list hl6
        refine wpAny_list_append hl8 (fun h₉ hl9 s9 => ?_) (by
          have e1 := rl6.length
          have e2 : (((xs.take i).filter p).map f).length ≤ xs.length := by
            rw [List.length_map]
            exact Nat.le_trans (List.length_filter_le _ _) (by rw [List.length_take]; exact Nat.min_le_right _ _)
          rw [List.size_toArray]; omega)
        have ky : Kb G.Bs (· = D) h₆ h₉ := (Kb.of k78).trans (Kb.same s9)
        refine ⟨xs.length + 1 - (i + 1), by omega, h₉, t₈, i + 1, ys ++ [y], rfl, hlt, rfl, W.frame _ _ _ st6 fun b hb o e => ky.ex (fun q => fpOff b hb D (Nat.le_refl _) q) e (hStF _ _ b o st6 hb e).1,
          ky.kp kp6 fun b q => by rw [q]; exact nD, by simpa using hl9, ?_, hns6.imp fun m n => ky.ns (hgD C (Nat.le_refl _)) n, fun x hx => ?_⟩
        · rw [mem, if_pos hp, List.map_append]
          exact ((rl6.keep k78).append (RpL.cons ry RpL.nil)).stays (isList_stays hl8 s9)
        · obtain ⟨a, ea, ha⟩ := hslotC x hx
          exact (can6 x hx).but ea (hgD a ha) ky
      · rw [if_neg hp]
        refine ⟨xs.length + 1 - (i + 1), by omega, h₇, t₇, i + 1, ys, rfl, hlt, rfl, W.frame _ _ _ st6 fun b hb o e => k7.ex e (hStF _ _ b o st6 hb e).1, kp6.trans k7, k7.list hl6, ?_, hns6.imp fun m n => k7.ns n, fun x hx => (can6 x hx).keep k7⟩
        rw [mem, if_neg hp, List.append_nil]
        exact rl6.keep k7
    · have hin : i = xs.length := by omega
      subst hin
      refine W.done _ _ F st fun h' t' kb => ?_
      have kb' : ∀ b o, b ≠ I → h.get? b = some o → h'.get? b = some o := fun b o hb e => kb b o (by simpa using hb) e
      have kbI : Kb G.Bs (· = I) h h' := fun b o hb e => ⟨o, kb' b o hb e, .refl⟩
      refine hRR D C h' t' ys nD nC hDC (kbI.kp kp fun b q => by rw [q]; exact hI) (hns.imp fun m n => n.at' fun o e => kb' _ o hIC e) (hl.at fun o e => kb' _ o hID e) ?_
      rw [List.take_length] at rl
      exact rl.stays fun a o vs n e dd _ => kb' a o (fun q => by subst q; exact hStS _ h o vs n st e dd) e
  have lp := loop tk₂
  rw [← hcenv] at lp
  refine codeAny_compStart_list lp (W.self 0 _ _ _ (W.frame _ _ _ st₂ fun b _ o e => k25 b o e) ?_)
  exact lp
end
end Mine
namespace Mine
section
variable {G : Gl} {A : Around} {E : Value → Shared → Prop} {env : Env} {h₁ h₂ : Heap} {X : List Addr}
theorem Turn.later {cenv : Addr → Env} {target elt : Expr} {ifs : List Expr} {p : Bool} {f : PyData} {d : PyData} (t : Turn G A cenv h₁ X target elt ifs p f d) (k : Kp G.Bs h₁ h₂) : Turn G A cenv h₂ X target elt ifs p f d :=
  ⟨t.shape, fun C D h k' nD nC => t.test C D h (k.trans k') (none_of_kp k nD) (none_of_kp k nC), fun C D h hp k' nD nC => t.elt C D h hp (k.trans k') (none_of_kp k nD) (none_of_kp k nC)⟩

/-- how the block's targets are kept -/
structure Block (scope : Scope) (cl : List (Str × Addr)) (env : Env) (target : Expr) : Prop where
  kind : scope.kind = .function
  clos : closureFor scope env = pure cl
  names : ∀ x ∈ scope.names, x.2 = .local → scope.names.lookup x.1 = some .local
  ap : ∀ C, (∀ x ∈ tnames target, (compEnvC scope (cellsFrom (C + 1) scope.names cl) C env).kindOf x = some .local) ∨ ∃ x p, target = .Name x p
  can : ∀ (h : Heap) (C : Addr), h.objs.size = C + 1 → (∃ m, h.Ns C m) → ∀ x ∈ tnames target, CanStore (compEnvC scope (cellsFrom (C + 1) scope.names cl) C env) (pushCells h scope.names) x
  slot : ∀ C, ∀ x ∈ tnames target, ∃ a, slotOf (compEnvC scope (cellsFrom (C + 1) scope.names cl) C env) x = some a ∧ C ≤ a
theorem Block.locals {scope : Scope} {cl : List (Str × Addr)} {target : Expr} (kind : scope.kind = .function) (clos : closureFor scope env = pure cl) (names : ∀ x ∈ scope.names, x.2 = .local → scope.names.lookup x.1 = some .local)
    (hl : ∀ x ∈ tnames target, scope.names.lookup x = some .local) : Block scope cl env target where
  kind := kind
  clos := clos
  names := names
  ap := fun C => .inl fun x hx => lookup_relabel_local (hl x hx)
  can := fun h C _ ⟨m, n⟩ x hx => .inl ⟨lookup_relabel_local (hl x hx), m, n.keeps (pushCells_keeps _ _)⟩
  slot := fun C x hx => ⟨C, by
    unfold slotOf
    rw [show (compEnvC scope (cellsFrom (C + 1) scope.names cl) C env).kindOf x = some .local from lookup_relabel_local (hl x hx)]
    rfl, Nat.le_refl _⟩

theorem ev_comp {elt iter target : Expr} {ifs : List Expr} {scope : Scope} {cl : List (Str × Addr)} {pos : Pos} {α : Type} {xs : List α} {enc : α → PyData} (p : α → Bool) (f : α → PyData)
    (B : Block scope cl env target) (hA : A.handled = none) (hX : Al X h₁) (hi : Does G A h₁ (eval iter env) (fun h xv => Src G A h X xv (xs.map enc))) (hsz : xs.length ≤ sizeLine)
    (turn : ∀ z ∈ xs, Turn G A (fun C => compEnvC scope (cellsFrom (C + 1) scope.names cl) C env) h₁ X target elt ifs (p z) (f z) (enc z))
    (hs : ∀ x, foldedSetIterable iter env x = pure x := by intro _; rfl) : Ev G A env h₁ X (.ListComp elt [⟨target, iter, ifs, 0⟩] scope pos) (.list ((xs.filter p).map f)) := by
  intro s Q E k hQ
  rw [eval_ListComp]
  refine wpAny_comprehension_free (use := none) rfl hs B.clos B.kind B.names (hi s _ E k fun xv h' tk k' src => ?_)
  refine comp_block (s₁ := { s with heap := h', toks := tk }) p f (RR := fun acc C => compPost (model G.prog G.w) A E none Q acc C) hA (hX.keep (k.trans k')) src hsz B.kind B.ap B.can B.slot (fun d hd => (turn d hd).later (k.trans k')) ?_
  intro D C h'' tk'' ys nD nC hDC k'' hns hl rl
  obtain ⟨m, hns⟩ := hns
  refine ⟨m, hns, fun h3 s3 => ?_⟩
  have sm : ∀ b o, b ≠ C → h''.get? b = some o → h3.get? b = some o := fun b o hb e => (s3.2 b hb).trans e
  have st : Stays (D :: X) h'' h3 := fun a o vs n e d _ => sm a o (fun q => by
    subst q; obtain ⟨o', _, _, e', d', _⟩ := hns; rw [e] at e'; cases e'; rw [d] at d'; cases d') e
  refine hQ (.ref D) h3 tk'' (k'.trans ((Kb.same (Bs := G.Bs) s3).kp k'' fun b q => by rw [q]; exact nC)) ?_
  exact Rp.list (hl.at fun o e => sm _ o hDC e) ((hX.keep (k.trans k')).outOf nD) (rl.stays st).tail

theorem ev_comp' {elt iter target : Expr} {ifs : List Expr} {scope : Scope} {cl : List (Str × Addr)} {pos : Pos} {α : Type} {xs : List α} {enc : α → PyData} {d : PyData} (p : α → Bool) (f : α → PyData)
    (B : Block scope cl env target) (hA : A.handled = none) (hX : Al X h₁) (hi : Does G A h₁ (eval iter env) (fun h xv => Src G A h X xv (xs.map enc))) (hsz : xs.length ≤ sizeLine)
    (turn : ∀ z ∈ xs, Turn G A (fun C => compEnvC scope (cellsFrom (C + 1) scope.names cl) C env) h₁ X target elt ifs (p z) (f z) (enc z)) (hd : d = .list ((xs.filter p).map f))
    (hs : ∀ x, foldedSetIterable iter env x = pure x := by intro _; rfl) : Ev G A env h₁ X (.ListComp elt [⟨target, iter, ifs, 0⟩] scope pos) d := by
  subst hd; exact ev_comp p f B hA hX hi hsz turn hs

/-- «y = [..]», the name stored ahead of the block's end -/
theorem st_comp {y : Str} {py spos : Pos} {elt iter target : Expr} {ifs : List Expr} {scope : Scope} {cl : List (Str × Addr)} {pos : Pos} {α : Type} {xs : List α} {enc : α → PyData} {s : Shared} {Q : Flow → Shared → Prop} (p : α → Bool) (f : α → PyData)
    (B : Block scope cl env target) (hA : A.handled = none) (hX : Al X s.heap) (hk : env.scope.kind = .function) (hy : env.kindOf y = some .local) (hc : CanStore env s.heap y) (ap : Apart env)
    (hi : Does G A s.heap (eval iter env) (fun h xv => Src G A h X xv (xs.map enc))) (hsz : xs.length ≤ sizeLine)
    (turn : ∀ z ∈ xs, Turn G A (fun C => compEnvC scope (cellsFrom (C + 1) scope.names cl) C env) s.heap X target elt ifs (p z) (f z) (enc z))
    (hQ : ∀ h' tk, Chg G.Bs env [y] [] s.heap h' → Var X env h' y (.list ((xs.filter p).map f)) → Q .next { s with heap := h', toks := tk })
    (hsw : swapsWith (.ListComp elt [⟨target, iter, ifs, 0⟩] scope pos) (some (.Name y py)) spos.line env = pure true := by rfl)
    (hs : ∀ x, foldedSetIterable iter env x = pure x := by intro _; rfl) : wpAny (model G.prog G.w) A (exec (.Assign [.Name y py] (.ListComp elt [⟨target, iter, ifs, 0⟩] scope pos) spos) env) Q E s := by
  rw [exec_Assign_Name_used _ _ _ _ hsw]
  refine wpAny_bind (wpAny_standAt (wpAny_bind ?_))
  show wpAny _ A (do let _ ← comprehension (.ListComp elt [⟨target, iter, ifs, 0⟩] scope pos) scope env _ (newList []) false (eval iter env) (some (assign (.Name y py) env))) _ _ s
  refine wpAny_bind (wpAny_mono (wpAny_comprehension_free (use := some (assign (.Name y py) env)) (Q := fun _ s' => Q .next s') rfl hs B.clos B.kind B.names (hi s _ E (Kp.refl _) fun xv h' tk k' src => ?_)) (fun _ s' hq => wpAny_pure (wpAny_pure hq)) fun _ _ e => e)
  refine comp_block (s₁ := { s with heap := h', toks := tk }) p f (RR := fun acc C => compPost (model G.prog G.w) A E (some (assign (.Name y py) env)) (fun _ s' => Q .next s') acc C) hA (hX.keep k') src hsz B.kind B.ap B.can B.slot (fun d hd => (turn d hd).later k') ?_
  intro D C h'' tk'' ys nD nC hDC k'' hns hl rl
  obtain ⟨m, hns⟩ := hns
  have k1 : Kp G.Bs s.heap h'' := k'.trans k''
  have nC1 : s.heap.get? C = none := none_of_kp k' nC
  show wpAny _ A (assign (.Name y py) env (.ref D)) _ _ _
  refine st_assign hk (hc.keep k1) fun h2 tk2 u => ?_
  have rp2 : Rp X h'' (.ref D) (.list ((xs.filter p).map f)) := Rp.list hl ((hX.keep k').outOf nD) rl.tail
  have slotC : ∀ {b : Addr}, slotOf env y = some b → b ≠ C := fun {b} e q => by
    subst q
    unfold slotOf at e
    rw [hy] at e; cases e
    rcases hc with ⟨_, m', n'⟩ | ⟨z, _⟩
    · obtain ⟨o, _, _, e, _⟩ := n'; rw [nC1] at e; cases e
    · rw [hy] at z; cases z
  have hLC : env.locals ≠ C := slotC (by unfold slotOf; rw [hy])
  have hns2 : h2.Ns C m := by
    refine hns.at' fun o e => u.keep (fun q => ?_) e
    exact slotC q rfl
  refine ⟨m, hns2, fun h3 s3 => ?_⟩
  have sm : ∀ b o, b ≠ C → h2.get? b = some o → h3.get? b = some o := fun b o hb e => (s3.2 b hb).trans e
  have stA : ∀ {X}, Stays X h2 h3 := fun {X} a o vs n e d _ => sm a o (fun q => by
    subst q; obtain ⟨o', _, _, e', d', _⟩ := hns2; rw [e] at e'; cases e'; rw [d] at d'; cases d') e
  have lk : ∀ {z u}, Look env h2 z u → Look env h3 z u := fun {z u} l => by
    rcases l with ⟨b, m', n', e'⟩ | ⟨b, c', e', i'⟩
    · exact .inl ⟨b, m', n'.at' fun o e => sm _ o hLC e, e'⟩
    · obtain ⟨o, ho, hd⟩ := i'
      refine .inr ⟨b, c', e', o, sm _ o (fun q => ?_) ho, hd⟩
      subst q
      exact ns_not_cell hns2 ⟨o, ho, hd⟩
  refine hQ h3 tk2 ⟨(Kp.stays k1).trans (u.stays.mono.trans stA), fun ap hz l => lk (u.look (.inl ap) (fun q => hz (q ▸ List.mem_singleton.mpr rfl)) (l.keep k1)), fun c => ?_, fun b o hb e => ?_, fun a => ?_, fun n => ?_⟩ ?_
  · have c2 := (c.keep k1).upd u
    rcases c2 with ⟨b, m', n'⟩ | ⟨b, c', u', e', i'⟩
    · exact .inl ⟨b, m', n'.at' fun o e => sm _ o hLC e⟩
    · obtain ⟨o, ho, hd⟩ := i'
      refine .inr ⟨b, c', u', e', o, sm _ o (fun q => ?_) ho, hd⟩
      subst q
      exact ns_not_cell hns2 ⟨o, ho, hd⟩
  · obtain ⟨o', e', sim⟩ := k1 b o e
    exact ⟨o', sm _ _ (fun q => by subst q; rw [nC1] at e; cases e) (u.keep (fun q => hb (.inl ⟨y, List.mem_singleton.mpr rfl, q⟩)) e'), sim⟩
  · intro b hb
    obtain ⟨o, e⟩ := a b hb
    obtain ⟨o', e'⟩ := u.al (a.keep k1) b hb
    exact ⟨o', sm _ _ (fun q => by subst q; rw [nC1] at e; cases e) e'⟩
  · obtain ⟨m', n'⟩ := u.loc (n.imp fun m n => k1.ns n)
    exact ⟨m', n'.at' fun o e => sm _ o hLC e⟩
  · exact ⟨_, lk u.self, (u.rp rp2).stays stA⟩
end
end Mine
namespace Mine

/-- the frames on the stack -/
def FrF (Bs h : Heap) (l : List Env) : Prop := ∀ env ∈ l, env.scope.kind ≠ .module ∧ ∃ L o es n, env.frame = some L ∧ Bs.get? L = none ∧ h.get? L = some o ∧ o.data = .dict es n
theorem FrF.keep {Bs h h' : Heap} {l : List Env} (f : FrF Bs h l) (k : Kp Bs h h') : FrF Bs h' l := fun env m => by
  obtain ⟨a, L, o, es, n, e1, e2, e3, e4⟩ := f env m
  obtain ⟨o', e', s⟩ := k L o e3
  exact ⟨a, L, o', es, n, e1, e2, e', s.data.trans e4⟩
structure Go (G : Gl) (n : Nat) (A : Around) (h : Heap) : Prop where
  hd : A.handled = none
  dp : A.depth + n < 900
  un : A.units + 20 * n < 9000
  base : Kp G.Bs G.Bs h
  fr : ∃ l, A.frames = some l ∧ FrF G.Bs h l
theorem Go.later {G : Gl} {n : Nat} {A : Around} {h h' : Heap} (g : Go G n A h) (k : Kp G.Bs h h') : Go G n A h' := ⟨g.hd, g.dp, g.un, g.base.trans k, g.fr.imp fun _ f => ⟨f.1, f.2.keep k⟩⟩
theorem Go.le {G : Gl} {n m : Nat} {A : Around} {h : Heap} (g : Go G n A h) (k : m ≤ n) : Go G m A h := ⟨g.hd, by have := g.dp; omega, by have := g.un; omega, g.base, g.fr⟩

/-- a def's frame: s₀ the state of the call -/
structure Fn (G : Gl) (s₀ : Shared) (env : Env) (h : Heap) : Prop where
  kind : env.scope.kind = .function
  ap : Apart env
  keep : Kp G.Bs s₀.heap h
  can : ∀ x a, slotOf env x = some a → CanStore env h x
  new : ∀ x a, slotOf env x = some a → s₀.heap.get? a = none
  loc : ∃ m, h.Ns env.locals m
  newL : s₀.heap.get? env.locals = none
  frame : env.frame = some env.locals
section
variable {G : Gl} {s₀ : Shared} {env : Env} {h h' : Heap} {xs : List Str} {Y : List Addr}
theorem Fn.chg (f : Fn G s₀ env h) (c : Chg G.Bs env xs Y h h') (hY : ∀ y ∈ Y, s₀.heap.get? y = none) : Fn G s₀ env h' :=
  ⟨f.kind, f.ap, c.keep.kp f.keep fun a z => z.elim (fun ⟨x, _, e⟩ => f.new x a e) (hY a), fun x a e => c.can (f.can x a e), f.new, c.loc f.loc, f.newL, f.frame⟩
theorem Fn.kp (f : Fn G s₀ env h) (k : Kp G.Bs h h') : Fn G s₀ env h' := f.chg (Chg.ofKp k) fun _ q => nomatch q
theorem Fn.canL (f : Fn G s₀ env h) {x : Str} (e : env.kindOf x = some .local) : CanStore env h x := f.can x env.locals (by unfold slotOf; rw [e])
end

def Post (G : Gl) (s₀ : Shared) (R : Heap → Value → Prop) (f : Flow) (s' : Shared) : Prop := ∃ v h' tk, f = .ret v ∧ s' = { s₀ with heap := h', toks := tk } ∧ Kp G.Bs s₀.heap h' ∧ R h' v
abbrev NoE : Value → Shared → Prop := fun _ _ => False

theorem bindL_in {kindOf : Str → Option NameKind} {x : Str} {v : Value} (hl : kindOf x = some .local) : ∀ {binds : List (Str × Value)} {m : Str → Option Value}, (binds.map (·.1)).Nodup → (x, v) ∈ binds → bindL kindOf binds m x = some v := by
  have out : ∀ {binds : List (Str × Value)} {m : Str → Option Value}, x ∉ binds.map (·.1) → bindL kindOf binds m x = m x := by
    intro binds
    induction binds with
    | nil => intro m _; rfl
    | cons p r ih =>
      intro m hx
      obtain ⟨n, u⟩ := p
      simp only [List.map_cons, List.mem_cons, not_or] at hx
      unfold bindL
      rw [ih hx.2]
      split
      · exact if_neg hx.1
      · rfl
  intro binds
  induction binds with
  | nil => intro m _ h; cases h
  | cons p r ih =>
    intro m hn hm
    obtain ⟨n, u⟩ := p
    simp only [List.map_cons, List.nodup_cons] at hn
    unfold bindL
    rcases List.mem_cons.mp hm with e | hm
    · cases e
      rw [out hn.1, if_pos hl]; exact if_pos rfl
    · exact ih hn.2 hm
theorem bindC_in {kindOf : Str → Option NameKind} {x : Str} {v : Value} (hl : kindOf x ≠ some .local) : ∀ {binds : List (Str × Value)} {m : Str → Option Value}, (binds.map (·.1)).Nodup → (x, v) ∈ binds → bindC kindOf binds m x = some v := by
  have out : ∀ {binds : List (Str × Value)} {m : Str → Option Value}, x ∉ binds.map (·.1) → bindC kindOf binds m x = m x := by
    intro binds
    induction binds with
    | nil => intro m _; rfl
    | cons p r ih =>
      intro m hx
      obtain ⟨n, u⟩ := p
      simp only [List.map_cons, List.mem_cons, not_or] at hx
      unfold bindC
      rw [ih hx.2]
      split
      · rfl
      · exact if_neg hx.1
  intro binds
  induction binds with
  | nil => intro m _ h; cases h
  | cons p r ih =>
    intro m hn hm
    obtain ⟨n, u⟩ := p
    simp only [List.map_cons, List.nodup_cons] at hn
    unfold bindC
    rcases List.mem_cons.mp hm with e | hm
    · cases e
      rw [out hn.1, if_neg hl]; exact if_pos rfl
    · exact ih hn.2 hm

section
variable {G : Gl} {A : Around} {K : Frag} {h₁ : Heap}
theorem call_def {a : Addr} {o : Obj} {fd : FuncData} {body : List Stmt} {vals : List Value} {R : Heap → Value → Prop} {n : Nat} (names : List Str) (g : Go G (n + 1) A h₁) (W : Wd K G.Bs)
    (ho : G.Bs.get? a = some o) (hd : o.data = .func fd) (hcd : codeIn K fd.code fd.qualname = true) (hbody : fd.body = .stmts body) (hbind : bindArgs fd ⟨vals, []⟩ = pure (names.zip vals)) (hlen : names.length = vals.length) (hclo : fd.closure = [])
    (hkn : (names.all fun y => fd.scope.names.lookup y == some .local || fd.scope.names.lookup y == some .cell) = true) (hnd' : names.Nodup) (hk : fd.scope.kind = .function)
    (h : ∀ (s₀ : Shared) h tk, Kp G.Bs h₁ s₀.heap → Fn G s₀ (callEnvC fd s₀.heap.objs.size a) h → (∀ p ∈ names.zip vals, Look (callEnvC fd s₀.heap.objs.size a) h p.1 p.2) → Go G n (A.deeper (callEnvC fd s₀.heap.objs.size a)) h →
      wpAny (model G.prog G.w) (A.deeper (callEnvC fd s₀.heap.objs.size a)) (execs body (callEnvC fd s₀.heap.objs.size a)) (Post G s₀ R) NoE { s₀ with heap := h, toks := tk })
    (hco : fd.scope.isCoroutine = false := by rfl) (hgen : fd.scope.isGenerator = false := by rfl) : Does G A h₁ (call (.ref a) vals) R := by
  intro s Q E k hQ
  have hnm : (names.zip vals).map (·.1) = names := List.map_fst_zip (by omega)
  have hnd : ((names.zip vals).map (·.1)).Nodup := by rw [hnm]; exact hnd'
  have hkind : ((names.zip vals).all fun y => fd.scope.names.lookup y.1 == some .local || fd.scope.names.lookup y.1 == some .cell) = true := by
    rw [List.all_eq_true] at hkn ⊢
    exact fun y hy => hkn y.1 (by rw [← hnm]; exact List.mem_map_of_mem hy)
  have kb := (g.base.trans k).base
  refine wpAny_call (codeAny_call_cells (by have := g.dp; simp only [recursionLimit]; omega) (kb _ _ ho) hd (W.nolimit.keeps kb) ((codeRec_of W.K hcd).keeps kb) hbody hbind hclo (kindsX hkind _) (fun s₁ x => ?_) hco hgen hk)
  obtain ⟨h', tk, rfl, kk⟩ := x.done
  generalize hE : callEnvC fd s.heap.objs.size a = env at x ⊢
  have hL : env.locals = s.heap.objs.size := by rw [← hE]; rfl
  have hke : env.scope.kind = .function := by rw [← hE]; exact hk
  have hfr : env.frame = some env.locals := by rw [← hE]; rfl
  have nL : s.heap.get? env.locals = none := none_ge (by rw [hL]; exact Nat.le_refl _)
  have F : Fn G s env h' := by
    refine ⟨hke, x.apart, Kp.of kk, fun y c e => ?_, fun y c e => ?_, ⟨_, x.toInCall.ns⟩, nL, hfr⟩
    · unfold slotOf at e
      split at e
      · rename_i q; exact .inl ⟨q, _, x.toInCall.ns⟩
      · rename_i q; exact .inr ⟨q, c, _, e, x.cell y c e⟩
      · cases e
    · unfold slotOf at e
      split at e
      · cases e; exact nL
      · have := x.above y c (mem_of_lookup e)
        exact none_ge (by rw [hL] at this; exact Nat.le_of_lt this)
      · cases e
  have P : ∀ p ∈ names.zip vals, Look env h' p.1 p.2 := fun p hp => by
    have hkx := kindsX hkind (s.heap.objs.size + 1) p hp
    have kE : env.kindOf p.1 = fd.scope.names.lookup p.1 := by rw [← hE]; rfl
    rcases hkx with q | ⟨q, q'⟩
    · exact .inl ⟨kE.trans q, _, x.toInCall.ns, bindL_in (kE.trans q) hnd (v := p.2) hp⟩
    · obtain ⟨c, hc⟩ := Option.isSome_iff_exists.mp q'
      have hc' : env.cells.lookup p.1 = some c := by rw [← hE]; exact hc
      have hb := bindC_in (kindOf := env.kindOf) (x := p.1) (v := p.2) (m := fun _ => none) (by rw [kE, q]; simp) hnd hp
      have := x.cell p.1 c hc'
      rw [hb] at this
      exact .inr ⟨.inl (kE.trans q), c, hc', this⟩
  have GO : Go G n (A.deeper env) h' := by
    obtain ⟨l, e, f⟩ := g.fr
    refine ⟨g.hd, by have := g.dp; show A.depth + 1 + n < 900; omega, by have := g.un; show A.units + 3 + 20 * n < 9000; omega, (g.base.trans k).trans (Kp.of kk), env :: l, by show A.frames.map _ = _; rw [e]; rfl, fun e' m => ?_⟩
    rcases List.mem_cons.mp m with rfl | m
    · obtain ⟨o', es, ep, e1, e2, _⟩ := x.toInCall.ns
      exact ⟨by rw [hke]; simp, _, o', es, ep, hfr, none_of_kp (g.base.trans k) nL, e1, e2⟩
    · exact (f.keep (k.trans (Kp.of kk))) e' m
  subst hE
  refine wpAny_mono (h s h' tk k F P GO) (fun f s' p => ?_) fun _ _ q => q.elim
  obtain ⟨v, h2, t2, rfl, rfl, k2, r⟩ := p
  exact hQ v h2 t2 k2 r
end

/-! statements -/
section
variable {G : Gl} {A : Around} {s₀ : Shared} {env : Env} {h : Heap} {X : List Addr} {tk : Nat} {rest : List Stmt} {Q : Flow → Shared → Prop} {E : Value → Shared → Prop} {pos : Pos}
theorem ret_ev {e : Expr} {R : Heap → Value → Prop} (F : Fn G s₀ env h) (ev : Does G A h (eval e env) R) : wpAny (model G.prog G.w) A (execs (.Return (some e) pos :: rest) env) (Post G s₀ R) E { s₀ with heap := h, toks := tk } :=
  wpAny_execs_cons (wpAny_Return_some (ev _ _ E (Kp.refl _) fun v h' tk' k r => ⟨v, h', tk', rfl, rfl, F.keep.trans k, r⟩))
theorem st_set {x : Str} {p : Pos} {e : Expr} {R : Heap → Value → Prop} (F : Fn G s₀ env h) (ev : Does G A h (eval e env) R) (hx : ∃ a, slotOf env x = some a)
    (cont : ∀ v h₁ h' tk', Kp G.Bs h h₁ → R h₁ v → Upd env x v h₁ h' → Chg G.Bs env [x] [] h h' → Fn G s₀ env h' → wpAny (model G.prog G.w) A (execs rest env) Q E { s₀ with heap := h', toks := tk' })
    (hs : swapsWith e (some (.Name x p)) pos.line env = pure false := by rfl) : wpAny (model G.prog G.w) A (execs (.Assign [.Name x p] e pos :: rest) env) Q E { s₀ with heap := h, toks := tk } := by
  obtain ⟨a, ha⟩ := hx
  refine wpAny_execs_cons (wpAny_Assign_Name (ev _ _ E (Kp.refl _) fun v h₁ tk₁ k r => ?_) hs)
  refine st_name F.kind ((F.can x a ha).keep k) fun h' tk' u => ?_
  have ch : Chg G.Bs env [x] [] h h' := (Chg.ofKp k).trans (Chg.ofUpd u)
  exact cont v h₁ h' tk' k r u ch (F.chg ch fun _ q => nomatch q)
theorem st_let {x : Str} {p : Pos} {e : Expr} {d : PyData} (F : Fn G s₀ env h) (ev : Ev G A env h X e d) (hx : ∃ a, slotOf env x = some a)
    (cont : ∀ h' tk', Chg G.Bs env [x] [] h h' → Fn G s₀ env h' → Var X env h' x d → wpAny (model G.prog G.w) A (execs rest env) Q E { s₀ with heap := h', toks := tk' })
    (hs : swapsWith e (some (.Name x p)) pos.line env = pure false := by rfl) : wpAny (model G.prog G.w) A (execs (.Assign [.Name x p] e pos :: rest) env) Q E { s₀ with heap := h, toks := tk } :=
  st_set F ev hx (fun v h₁ h' tk' k r u ch F' => cont h' tk' ch F' (u.new r)) hs
theorem st_letComp {y : Str} {py : Pos} {elt iter target : Expr} {ifs : List Expr} {scope : Scope} {cl : List (Str × Addr)} {cpos : Pos} {α : Type} {xs : List α} {enc : α → PyData} (F : Fn G s₀ env h) (p : α → Bool) (f : α → PyData)
    (B : Block scope cl env target) (hA : A.handled = none) (hX : Al X h) (hy : env.kindOf y = some .local)
    (hi : Does G A h (eval iter env) (fun h xv => Src G A h X xv (xs.map enc))) (hsz : xs.length ≤ sizeLine)
    (turn : ∀ z ∈ xs, Turn G A (fun C => compEnvC scope (cellsFrom (C + 1) scope.names cl) C env) h X target elt ifs (p z) (f z) (enc z))
    (cont : ∀ h' tk', Chg G.Bs env [y] [] h h' → Fn G s₀ env h' → Var X env h' y (.list ((xs.filter p).map f)) → wpAny (model G.prog G.w) A (execs rest env) Q E { s₀ with heap := h', toks := tk' })
    (hsw : swapsWith (.ListComp elt [⟨target, iter, ifs, 0⟩] scope cpos) (some (.Name y py)) pos.line env = pure true := by rfl)
    (hs : ∀ x, foldedSetIterable iter env x = pure x := by intro _; rfl) :
    wpAny (model G.prog G.w) A (execs (.Assign [.Name y py] (.ListComp elt [⟨target, iter, ifs, 0⟩] scope cpos) pos :: rest) env) Q E { s₀ with heap := h, toks := tk } :=
  wpAny_execs_cons (st_comp p f B hA hX F.kind hy (F.canL hy) F.ap hi hsz turn (fun h' tk' ch v => cont h' tk' ch (F.chg ch fun _ q => nomatch q) v) hsw hs)
theorem st_if {t : Expr} {body orelse : List Stmt} {b : Bool} (F : Fn G s₀ env h) (ht : Tr G A env h t b)
    (cont : ∀ h' tk', Kp G.Bs h h' → Fn G s₀ env h' → wpAny (model G.prog G.w) A (execs (if b then body else orelse) env) (fun f s' => match f with | .next => wpAny (model G.prog G.w) A (execs rest env) Q E s' | f => Q f s') E { s₀ with heap := h', toks := tk' }) :
    wpAny (model G.prog G.w) A (execs (.If t body orelse pos :: rest) env) Q E { s₀ with heap := h, toks := tk } :=
  wpAny_execs_cons (wpAny_If (ht _ _ E (Kp.refl _) fun c h' tk' k e => by
    subst e
    have := cont h' tk' k (F.kp k)
    cases c <;> exact this))
end
end Mine
namespace Mine
section
variable {G : Gl} {A : Around} {env : Env} {h₁ h₂ : Heap} {X : List Addr} {pos : Pos} {value slice : Expr}
/-- an item of a list -/
theorem ev_item {ds : List PyData} {i : Int} {d : PyData} (hv : Ev G A env h₁ X value (.list ds)) (hs : Ev G A env h₁ X slice (.int i)) (h0 : 0 ≤ i) (h1 : i < 2 ^ 63) (hd : ds[i.toNat]? = some d)
    (hsub : ∀ a u, subscripted slice false (.ref a) (.int i u) = operate [.ref a, .int i u] (getItem (.ref a) (.int i u)) := by intro _ _; with_unfolding_all rfl) : Ev G A env h₁ X (.Subscript value slice pos) d :=
  does_two (op := fun o i => subscriptTail value slice o i) hv hs rp_mono (fun u v h k ru rv s Q E hk hQ => by
    obtain ⟨a, vs, rfl, hx, hl, rl⟩ := (ru.keep hk).ofList
    obtain ⟨t, rfl⟩ := rv.ofInt
    obtain ⟨y, ey, ry⟩ := rl.get' hd
    exact tail_any hl.typeIs slot_list_getitem.lookup (wpAny_getItem_list hl h0 h1 (by simpa using ey) (hQ y s.heap s.toks (Kp.refl _) ry)) (hsub _ _)) fun h => Subscript_ h
/-- an item of a tuple -/
theorem ev_itemT {ds : List PyData} {i : Int} {j : Nat} {d : PyData} (hv : Ev G A env h₁ X value (.tuple ds)) (hs : Ev G A env h₁ X slice (.int i)) (h0 : -(2 ^ 63) ≤ i) (h1 : i < 2 ^ 63) (hj : seqIndex? i ds.length = some j) (hd : ds[j]? = some d)
    (hsub : ∀ a u, subscripted slice false (.ref a) (.int i u) = operate [.ref a, .int i u] (getItem (.ref a) (.int i u)) := by intro _ _; with_unfolding_all rfl) : Ev G A env h₁ X (.Subscript value slice pos) d :=
  does_two (op := fun o i => subscriptTail value slice o i) hv hs rp_mono (fun u v h k ru rv s Q E hk hQ => by
    obtain ⟨a, vs, rfl, hl, rl⟩ := (ru.keep hk).ofTuple
    obtain ⟨t, rfl⟩ := rv.ofInt
    obtain ⟨y, ey, ry⟩ := rl.get' hd
    exact item_tupleT hl h0 h1 (by rw [rl.length]; exact hj) ey (hQ y s.heap s.toks (Kp.refl _) ry) (hsub _ _)) fun h => Subscript_ h
end
/-- a name of the def's seen in a block -/
theorem Look.inner {env cenv : Env} {h : Heap} {x : Str} {v : Value} (l : Look env h x v) (hk : env.kindOf x = some .cell) (hk' : cenv.kindOf x = some .cell ∨ (cenv.kindOf x = some .free ∧ (x == ("__classdict__" : Str)) = false)) (hc : cenv.cells.lookup x = env.cells.lookup x) : Look cenv h x v := by
  rcases l with ⟨a, _⟩ | ⟨_, c, e, i⟩
  · rw [hk] at a; cases a
  · exact .inr ⟨hk', c, hc.trans e, i⟩
theorem Var.inner {X : List Addr} {env cenv : Env} {h : Heap} {x : Str} {d : PyData} (l : Var X env h x d) (hk : env.kindOf x = some .cell := by rfl) (hk' : cenv.kindOf x = some .cell := by rfl) (hc : cenv.cells.lookup x = env.cells.lookup x := by rfl) : Var X cenv h x d :=
  l.imp fun _ y => ⟨y.1.inner hk (.inl hk') hc, y.2⟩
end Mine
namespace Mine
theorem pylong_small {a b : Int} (hb : b.natAbs < 2 ^ 64) : Builtin.divisionGoesByPylong a b = false := by
  unfold Builtin.divisionGoesByPylong
  by_cases h0 : b = 0
  · subst h0; simp
  · have : b.natAbs.log2 < 64 := (Nat.log2_lt (by omega)).mpr hb
    have h1 : (b == 0) = false := by simpa using h0
    simp only [h1, Bool.false_eq_true, if_false, Bool.and_eq_false_imp, decide_eq_true_eq]
    intro h; omega
theorem two_pow_ne (c : Nat) : (2 : Int) ^ c ≠ 0 := by
  have : (0 : Int) < 2 ^ c := Int.pow_pos (by decide)
  omega
theorem two_pow_abs {c k : Nat} (h : c < k) : ((2 : Int) ^ c).natAbs < 2 ^ k := by
  rw [Int.natAbs_pow]
  exact Nat.pow_lt_pow_right (by decide) h
section
variable {G : Gl} {A : Around} {K : Frag} {h₁ : Heap} {X : List Addr} {env : Env}
theorem it_range {e : Expr} {pos p : Pos} {n : Nat} (W : Wd K G.Bs) (hA : A.handled = none) (hb : Kp G.Bs G.Bs h₁) (eg : nsIn K mainGlobals "range" = some none) (he : Ev G A env h₁ X e (.int (n : Nat))) (hn : n < 2 ^ 61)
    (hx : env.kindOf "range" = some .globalImplicit := by rfl) (hg : env.globals = mainGlobals := by rfl) (hbu : env.builtins = builtinsNs := by rfl) (hk : env.scope.kind = .function := by rfl)
    (hs : starEach [e] env = (false, eval e env) :: starEach [] env := by rfl) :
    Does G A h₁ (eval (.Call (.Name "range" p) [e] [] pos) env) (fun h x => Src G A h X x (upto n)) :=
  (ev_range W hb he eg hx hg hbu hk hs).imp fun h' v k' r => by
    obtain ⟨r, t, u, z, rfl, hr⟩ := r
    exact src_range hA hn hr
theorem it_list {e : Expr} {ds : List PyData} (hA : A.handled = none) (he : Ev G A env h₁ X e (.list ds)) : Does G A h₁ (eval e env) (fun h x => Src G A h X x ds) :=
  he.imp fun _ _ _ r => src_list hA r
end
end Mine
namespace Mine
/-- what is known stays known, but for some names -/
structure Still (env : Env) (ts : List Str) (h h' : Heap) : Prop where
  st : Stays [] h h'
  look : ∀ {y u}, Apart env → y ∉ ts → Look env h y u → Look env h' y u
section
variable {Bs : Heap} {env : Env} {ts us : List Str} {h h' a b c : Heap} {X : List Addr}
theorem Still.refl (h : Heap) : Still env [] h h := ⟨fun _ _ _ _ e _ _ => e, fun _ _ l => l⟩
theorem Still.ofKp (k : Kp Bs h h') : Still env [] h h' := ⟨k.stays, fun _ _ l => l.keep k⟩
theorem Still.ofChg {Y : List Addr} (k : Chg Bs env ts Y h h') (hY : ∀ y ∈ Y, ∀ vs, ¬ h.IsList y vs) : Still env ts h h' := ⟨k.staysX fun y m ⟨vs, q⟩ => (hY y m vs q).elim, k.look⟩
theorem Still.trans (p : Still env ts a b) (q : Still env us b c) : Still env (ts ++ us) a c :=
  ⟨p.st.trans q.st, fun ap hy l => q.look ap (fun m => hy (List.mem_append_right _ m)) (p.look ap (fun m => hy (List.mem_append_left _ m)) l)⟩
theorem Still.rp {v : Value} {d : PyData} (p : Still env ts h h') (r : Rp X h v d) : Rp X h' v d := r.stays p.st.mono
theorem Still.rpL {v : List Value} {d : List PyData} (p : Still env ts h h') (r : RpL X h v d) : RpL X h' v d := r.stays p.st.mono
theorem Still.list {D : Addr} {vs : Array Value} (p : Still env ts h h') (hl : h.IsList D vs) : h'.IsList D vs := by
  obtain ⟨o, e, c, n, d⟩ := hl
  exact ⟨o, p.st D o vs n e d (.inr ⟨c, List.not_mem_nil⟩), c, n, d⟩
theorem Still.var {y : Str} {d : PyData} (p : Still env ts h h') (ap : Apart env) (hy : y ∉ ts) (v : Var X env h y d) : Var X env h' y d := v.imp fun _ z => ⟨p.look ap hy z.1, p.rp z.2⟩
end

section
variable {G : Gl} {A : Around} {s₀ : Shared} {env : Env} {h : Heap} {X Y : List Addr} {tk : Nat} {rest body : List Stmt} {Q : Flow → Shared → Prop} {E : Value → Shared → Prop} {pos : Pos}
theorem st_for {target iter : Expr} {ds : List PyData} (xs : List Str) (F : Fn G s₀ env h) (hA : A.handled = none) (hX : Al X h) (hYX : ∀ y ∈ Y, y ∈ X) (hYn : ∀ y ∈ Y, s₀.heap.get? y = none)
    (hi : Does G A h (eval iter env) (fun h xv => Src G A h X xv ds)) (hxs : ∀ x ∈ tnames target, x ∈ xs ∧ ∃ a, slotOf env x = some a) (shape : ∀ d ∈ ds, TShape target d)
    (J : Nat → Heap → Prop) (J0 : J 0 h)
    (turn : ∀ i d hi hc tk (E' : Value → Shared → Prop), ds[i]? = some d → J i hi → Still env (tnames target) hi hc → Fn G s₀ env hc → Al X hc → TV X env hc target d →
      wpAny (model G.prog G.w) A (execs body env) (fun f s' => match f with
        | .next | .cont => ∃ h' tk', s' = { s₀ with heap := h', toks := tk' } ∧ Chg G.Bs env xs Y hc h' ∧ J (i + 1) h'
        | .ret v => Q (.ret v) s'
        | .brk => False) E' { s₀ with heap := hc, toks := tk })
    (done : ∀ hn he tk, J ds.length hn → Still env [] hn he → Chg G.Bs env xs Y h he → Fn G s₀ env he → wpAny (model G.prog G.w) A (execs rest env) Q E { s₀ with heap := he, toks := tk })
    (hs : ∀ x, foldedSetIterable iter env x = pure x := by intro _; rfl) : wpAny (model G.prog G.w) A (execs (.For target iter body [] pos :: rest) env) Q E { s₀ with heap := h, toks := tk } := by
  refine wpAny_execs_cons (wpAny_For (hi _ _ E (Kp.refl _) fun xv h₁ tk₁ k₁ src => ?_) hs)
  refine src _ _ E (Kp.refl _) fun I fp P St h₂ tk₂ k₂ W st₂ hfp hfo hI hP hStI hStF hStS hown => ?_
  have k12 := k₁.trans k₂
  have F₂ := F.kp k12
  have nI : h.get? I = none := none_of_kp k₁ hI
  have nIs : s₀.heap.get? I = none := none_of_kp F.keep nI
  have hIfp : I ∈ fp := W.sub I (List.mem_singleton.mpr rfl)
  have slotI : ∀ x a, slotOf env x = some a → a ≠ I := fun x a e q => by
    subst q
    have c := F.can x a e
    unfold slotOf at e
    rcases c with ⟨b, m, n⟩ | ⟨b, c, u, e', i⟩
    · rw [b] at e; cases e; obtain ⟨o, _, _, q, _⟩ := n; rw [nI] at q; cases q
    · rw [b, e'] at e; cases e; obtain ⟨o, q, _⟩ := i; rw [nI] at q; cases q
  have YI : ∀ y ∈ Y, y ≠ I := fun y m q => by subst q; obtain ⟨o, e⟩ := hX _ (hYX _ m); rw [nI] at e; cases e
  -- what the turns change is not what the loop goes over
  have offF : ∀ {hc : Heap} {i : Nat}, Fn G s₀ env hc → St i hc → ∀ b ∈ fp, ¬ ((∃ x ∈ xs, slotOf env x = some b) ∨ b ∈ Y) := fun {hc i} Fc st b hb z => by
    by_cases hbI : b = I
    · subst hbI
      rcases z with ⟨x, _, e⟩ | m
      · exact slotI x _ e rfl
      · exact YI _ m rfl
    · rcases z with ⟨x, _, e⟩ | m
      · have c := Fc.can x b e
        unfold slotOf at e
        rcases c with ⟨q, m, n⟩ | ⟨q, c, u, e', i⟩
        · rw [q] at e; cases e; obtain ⟨o, _, _, q, d, _⟩ := n; exact (hStF _ _ _ o st hb q).1 _ _ d
        · rw [q, e'] at e; cases e; obtain ⟨o, q, d⟩ := i; exact (hStF _ _ _ o st hb q).2 _ d
      · exact (hfo b hb hbI).2 (hYX _ m)
  refine codeAny_forLoop_any (fun k s' => ∃ hi he t i, s' = { s₀ with heap := he, toks := t } ∧ i ≤ ds.length ∧ k = ds.length + 1 - i ∧ St i he ∧ J i hi ∧ Still env [] hi he ∧ Fn G s₀ env he ∧ Chg G.Bs env xs (I :: Y) h₁ he) ?_ (ds.length + 1)
    ⟨h, h₂, tk₂, 0, rfl, Nat.zero_le _, rfl, st₂, J0, Still.ofKp k12, F₂, ((Chg.ofKp k₂).sub (fun _ q => nomatch q) (fun _ q => nomatch q))⟩
  rintro k s' ⟨hj, he, t, i, rfl, hile, rfl, st, hJ, stl, Fe, ch⟩
  have nI1 : h₁.get? I = none := hI
  have dropI : ∀ {hz : Heap} {xs' : List Str}, Chg G.Bs env xs' (I :: Y) h₁ hz → Chg G.Bs env xs' Y h₁ hz := fun {hz xs'} c => c.drop fun y m => (List.mem_cons.mp m).elim (fun q => .inr (q ▸ nI1)) .inl
  obtain ⟨oI, eI⟩ : ∃ o, he.get? I = some o := by
    cases q : he.get? I with
    | none => exact (hStI i he st q).elim
    | some o => exact ⟨o, rfl⟩
  have pI := hStF i he I oI st hIfp eI
  by_cases hlt : i < ds.length
  · refine W.item i _ _ _ hlt st fun v h' t' hPv st' kb => ?_
    obtain ⟨d, ed, rd⟩ := hP i v hPv
    have hd : d ∈ ds := List.mem_of_getElem? ed
    have eI' : ∃ o, h'.get? I = some o := by
      cases q : h'.get? I with
      | none => exact (hStI _ _ st' q).elim
      | some o => exact ⟨o, rfl⟩
    have chI : Chg G.Bs env [] [I] he h' := Chg.iter eI pI.1 pI.2 (fun vs n => hStS i he oI vs n st eI) eI' fun p o hp e => ⟨o, kb p o (by simpa using hp) e, .refl⟩
    have stI : Still env [] he h' := Still.ofChg chI fun y m vs q => by
      rw [List.mem_singleton.mp m] at q
      obtain ⟨o, e, _, n, d⟩ := q; rw [eI] at e; cases e; exact hStS i he oI vs n st eI d
    have F' := Fe.chg chI fun y m => by rw [List.mem_singleton.mp m]; exact nIs
    have ch' : Chg G.Bs env xs Y h₁ h' := dropI ((ch.trans chI).sub (fun x m => (List.mem_append.mp m).elim id fun q => nomatch q) fun y m => (List.mem_append.mp m).elim id fun q => List.mem_cons.mpr (.inl (List.mem_singleton.mp q)))
    have rd' : Rp X h' v d := rd.stays (ch'.stays hYX)
    dsimp only
    refine own_ok (shape d hd) (fun elts kk pp v' Q' E' q => hown (i + 1) h' elts kk pp v' st' _ Q' E' rfl q) ?_
    refine asg hA F.kind (.inl F.ap) (fun x hx => by obtain ⟨a, ha⟩ := (hxs x hx).2; exact F'.can x a ha) (shape d hd) rd' fun hc tc chT tv => ?_
    have Fc := F'.chg chT fun _ q => nomatch q
    have chT' : Chg G.Bs env xs Y h' hc := chT.sub (fun x m => (hxs x m).1) fun _ q => nomatch q
    have stc : St (i + 1) hc := W.frame _ _ _ st' fun b hb o e => chT'.keep.ex (offF F' st' b hb) e (hStF _ _ b o st' hb e).1
    have chc : Chg G.Bs env xs Y h₁ hc := (ch'.trans chT').sub (fun x m => (List.mem_append.mp m).elim id id) fun y m => (List.mem_append.mp m).elim id id
    have alc : Al X hc := chc.al (hX.keep k₁)
    refine wpAny_mono (turn i d hj hc tc (notedBy (model G.prog G.w) A env fun e s' => cameBackBy (model G.prog G.w) A env E e s') ed hJ (((stl.trans stI).trans (Still.ofChg chT fun _ q => nomatch q))) Fc alc tv) (fun f s3 hf => ?_) fun _ _ q => q
    cases f with
    | next =>
      obtain ⟨h3, t3, rfl, c3, J3⟩ := hf
      refine ⟨ds.length + 1 - (i + 1), by omega, h3, h3, t3, i + 1, rfl, hlt, rfl, W.frame _ _ _ stc fun b hb o e => c3.keep.ex (offF Fc stc b hb) e (hStF _ _ b o stc hb e).1, J3, Still.refl _, Fc.chg c3 hYn, ?_⟩
      exact (chc.trans c3).sub (fun x m => (List.mem_append.mp m).elim id id) fun y m => List.mem_cons_of_mem _ ((List.mem_append.mp m).elim id id)
    | cont =>
      obtain ⟨h3, t3, rfl, c3, J3⟩ := hf
      refine ⟨ds.length + 1 - (i + 1), by omega, h3, h3, t3, i + 1, rfl, hlt, rfl, W.frame _ _ _ stc fun b hb o e => c3.keep.ex (offF Fc stc b hb) e (hStF _ _ b o stc hb e).1, J3, Still.refl _, Fc.chg c3 hYn, ?_⟩
      exact (chc.trans c3).sub (fun x m => (List.mem_append.mp m).elim id id) fun y m => List.mem_cons_of_mem _ ((List.mem_append.mp m).elim id id)
    | brk => exact hf.elim
    | ret v => exact hf
  · have hin : i = ds.length := by omega
    subst hin
    refine W.done _ _ _ st fun h' t' kb => ?_
    refine wpAny_execs_nil ?_
    -- the iterator is done with
    have kbI : Kb G.Bs (· = I) he h' := fun p o hz e => ⟨o, kb p o (by simpa using hz) e, .refl⟩
    have stD : Stays [] he h' := fun p o vs n e d _ => kb p o (by
      have : p ≠ I := fun q => by subst q; rw [eI] at e; cases e; exact hStS _ he oI vs n st eI d
      simpa using this) e
    have lkD : ∀ {y u}, Look env he y u → Look env h' y u := fun {y u} l => by
      rcases l with ⟨b, m', n', e'⟩ | ⟨b, c', e', i'⟩
      · exact .inl ⟨b, m', kbI.ns (fun q => slotI y env.locals (by unfold slotOf; rw [b]) q) n', e'⟩
      · refine .inr ⟨b, c', e', kbI.cell (fun q => ?_) i'⟩
        subst q; obtain ⟨o, q, d⟩ := i'; rw [eI] at q; cases q; exact pI.2 _ d
    have cD : Chg G.Bs env xs Y h₁ h' := by
      have c1 := dropI ch
      refine ⟨fun p o vs n e d k => stD p o vs n (c1.st p o vs n e d k) d (k.imp id fun q => ⟨q.1, List.not_mem_nil⟩), fun ap hy l => lkD (c1.look ap hy l), fun c => ?_, fun p o hz e => ?_, fun {X} al p hp => ?_, fun n => ?_⟩
      · have := c1.can c
        rcases this with ⟨b, m, n⟩ | ⟨b, c, u, e, i⟩
        · exact .inl ⟨b, m, kbI.ns (fun q => slotI _ env.locals (by unfold slotOf; rw [b]) q) n⟩
        · refine .inr ⟨b, c, u, e, kbI.cell (fun q => ?_) i⟩
          subst q; obtain ⟨o, q, d⟩ := i; rw [eI] at q; cases q; exact pI.2 _ d
      · obtain ⟨o', e', sm⟩ := c1.keep p o hz e
        obtain ⟨o'', e'', sm'⟩ := kbI p o' (fun q => by subst q; rw [nI1] at e; cases e) e'
        exact ⟨o'', e'', sm.trans sm'⟩
      · obtain ⟨o, e⟩ := al p hp
        obtain ⟨o', e'⟩ := c1.al al p hp
        obtain ⟨o'', e'', _⟩ := kbI p o' (fun q => by subst q; rw [nI1] at e; cases e) e'
        exact ⟨o'', e''⟩
      · obtain ⟨m, n⟩ := c1.loc n
        exact ⟨m, kbI.ns (fun q => by subst q; obtain ⟨o, _, _, q, d, _⟩ := n; rw [eI] at q; cases q; exact pI.1 _ _ d) n⟩
    have cH : Chg G.Bs env xs Y h h' := ((Chg.ofKp (env := env) k₁).trans cD).sub (fun x m => (List.mem_append.mp m).elim (fun q => nomatch q) id) fun y m => (List.mem_append.mp m).elim (fun q => nomatch q) id
    exact done hj h' t' hJ ((stl.trans ⟨stD, fun _ _ l => lkD l⟩)) cH (F.chg cH hYn)
end
end Mine
namespace Mine
/-- an IndexError: its traceback, its context -/
def XAt (h : Heap) (e : Addr) (tb ctx : Value) : Prop := ∃ o t, h.get? e = some o ∧ o.cls = .type "IndexError" ∧ o.data = .fields #[t, tb, ctx, .none, .bool false, .none]
def TAt (h : Heap) (T : Addr) (fl : Value) : Prop := ∃ o ts, h.get? T = some o ∧ o.data = .fields ts ∧ ts[3]? = some fl
section
variable {Bs h h' : Heap} {e T : Addr} {tb ctx fl : Value} {Z : Addr → Prop}
theorem XAt.kb (x : XAt h e tb ctx) (k : Kb Bs Z h h') (z : ¬ Z e) : XAt h' e tb ctx := by
  obtain ⟨o, t, q, c, d⟩ := x
  exact ⟨o, t, k.ex z q (fun _ _ p => by rw [d] at p; cases p), c, d⟩
theorem TAt.kb (x : TAt h T fl) (k : Kb Bs Z h h') (z : ¬ Z T) : TAt h' T fl := by
  obtain ⟨o, ts, q, d, c⟩ := x
  exact ⟨o, ts, k.ex z q (fun _ _ p => by rw [d] at p; cases p), d, c⟩
theorem XAt.kp (x : XAt h e tb ctx) (k : Kp Bs h h') : XAt h' e tb ctx := x.kb (Kb.of (Z := fun _ => False) k) id
theorem TAt.kp (x : TAt h T fl) (k : Kp Bs h h') : TAt h' T fl := x.kb (Kb.of (Z := fun _ => False) k) id
end
theorem entry_unchain : entryFor table "proto.unchain" = some Builtin.«proto.unchain» := entryFor_of_tree (by kernel_rfl)
section
variable {G : Gl} {A : Around} {E : Value → Shared → Prop} {s : Shared} {env : Env}
theorem kb_of_update {Bs h : Heap} {a : Addr} (f : Obj → Obj) : Kb Bs (· = a) h (h.update a f) := Kb.same (Heap.SameBut.update h a f)
theorem fields_update {h : Heap} {a : Addr} {o : Obj} {vs : Array Value} (ho : h.get? a = some o) (hd : o.data = .fields vs) (i : Nat) (x : Value) :
    ∃ o', (h.update a (Obj.mapFields (·.setIfInBounds i x))).get? a = some o' ∧ o'.cls = o.cls ∧ o'.data = .fields (vs.setIfInBounds i x) :=
  ⟨_, Heap.get?_update_self _ ho (Obj.isFreed_of_fields (Obj.data_mapFields hd _)), Obj.cls_mapFields .., Obj.data_mapFields hd _⟩
/-- the handled exception that stands about -/
def CtxOk (A : Around) (h : Heap) : Prop := A.handled = none ∨ ∃ e1 tb, A.handled = some (.ref e1) ∧ XAt h e1 tb .none
theorem raise_idx {α : Type} {msg : String} {Q : α → Shared → Prop} (hc : CtxOk A s.heap)
    (hE : ∀ h' tk e ctx, Kp G.Bs s.heap h' → s.heap.get? e = none → XAt h' e .none ctx → (A.handled = none → ctx = .none) → E (.ref e) { s with heap := h', toks := tk }) : wpAny (model G.prog G.w) A (raiseErrorWords "IndexError" msg : Sem α) Q E s := by
  unfold raiseErrorWords
  refine wpAny_bind (wpAny_mkText (wpAny_bind ?_))
  unfold newExc newTuple
  refine wpAny_bind (wpAny_newObj_type ?_)
  refine wpAny_bind (m := firstArgMember _ _) (wpAny_of_eq (a := Value.none) (by simp only [firstArgMember, plainExc_IndexError.first]; rfl) ?_)
  rw [plainExc_IndexError.own]
  refine wpAny_newObj_type ?_
  dsimp only
  have k1 : Kp G.Bs s.heap (s.heap.push { cls := .type "tuple", data := .seq [Value.str (Str.ofString msg) s.toks].toArray }) := Kp.push _
  generalize hH1 : s.heap.push { cls := .type "tuple", dict := none, data := .seq [Value.str (Str.ofString msg) s.toks].toArray } = h1 at k1 ⊢
  have nE : s.heap.get? h1.objs.size = none := none_of_kp k1 (none_ge (Nat.le_refl _))
  have k2 : Kp G.Bs h1 (h1.push { cls := .type "IndexError", dict := none, data := .fields (#[.ref s.heap.objs.size, .none, .none, .none, .bool false, .none] ++ #[]) }) := Kp.push _
  have x2 : XAt (h1.push { cls := .type "IndexError", dict := none, data := .fields (#[.ref s.heap.objs.size, .none, .none, .none, .bool false, .none] ++ #[]) }) h1.objs.size .none .none :=
    ⟨_, _, Heap.get?_push_size _ rfl, rfl, rfl⟩
  generalize hH2 : h1.push { cls := .type "IndexError", dict := none, data := .fields (#[.ref s.heap.objs.size, .none, .none, .none, .bool false, .none] ++ #[]) } = h2 at k2 x2 ⊢
  generalize h1.objs.size = e at nE x2 ⊢
  unfold raiseNew
  refine wpAny_bind (wpAny_handled ?_)
  rcases hc with hn | ⟨e1, tb, he1, x1⟩
  · rw [hn]
    exact wpAny_bind (wpAny_pure (wpAny_throw (hE h2 _ e _ (k1.trans k2) nE x2 fun _ => rfl)))
  · rw [he1]
    have ne : e1 ≠ e := fun q => by subst q; obtain ⟨o, t, z, _⟩ := x1; rw [nE] at z; cases z
    show wpAny _ A (if (Value.ref e1 != Value.ref e) = true then _ else _) _ _ _
    rw [if_pos (by simpa using ne)]
    obtain ⟨o1, t1, z1, c1, d1⟩ := (x1.kp k1).kp k2
    refine wpAny_bind (wpAny_holding (wpAny_runValue (codeAny_builtin entry_unchain ?_)))
    unfold Builtin.«proto.unchain»
    refine wpAny_bind (wpAny_field z1 d1 (x := .none) rfl ?_)
    rw [if_pos (by decide)]
    refine wpAny_bind (wpAny_pure ?_)
    obtain ⟨o2, t2, z2, c2, d2⟩ := x2
    refine wpAny_pure ?_
    unfold updateField
    refine wpAny_bind (wpAny_bind (wpAny_load z2 ?_))
    rw [d2]
    show wpAny _ A (if 2 < (#[t2, Value.none, Value.none, Value.none, Value.bool false, Value.none] : Array Value).size then _ else _) _ _ _
    rw [if_pos (by simp)]
    refine wpAny_update z2 (wpAny_throw ?_)
    obtain ⟨o3, z3, c3, d3⟩ := fields_update z2 d2 2 (.ref e1)
    exact hE _ _ e (.ref e1) ((kb_of_update _).kp (k1.trans k2) fun b q => by rw [q]; exact nE) nE ⟨o3, t2, z3, c3.trans c2, d3⟩ fun q => by rw [he1] at q; cases q

/-- an item beyond the end -/
theorem get_out {l : Addr} {items : Array Value} {k : Int} {t : Tok} {Q : Value → Shared → Prop} (hc : CtxOk A s.heap) (hl : s.heap.IsList l items) (hout : (items.size : Int) ≤ k) (hhi : k < 2 ^ 62)
    (hE : ∀ h' tk e ctx, Kp G.Bs s.heap h' → s.heap.get? e = none → XAt h' e .none ctx → (A.handled = none → ctx = .none) → E (.ref e) { s with heap := h', toks := tk }) :
    wpAny (model G.prog G.w) A (getItem (.ref l) (.int k t)) Q E s := by
  obtain ⟨o, ho, hcl, ne, hd⟩ := id hl
  unfold getItem
  try with_reducible refine wpAny_holding ?_
  first | refine wpAny_bind (wpAny_pure ?_) | skip
  refine wpAny_bind (wpAny_sequenceKey hl.typeIs (by decide) ?_)
  refine wpAny_bind (wpAny_callSpecial?_slot (name := Str.ofString "__getitem__") hl.typeIs slot_list_getitem
    (wpAny_call_entry slot_list_getitem hl.typeIs entry_list_getitem ?_ (args_list_getitem _ _)))
  show wpAny _ _ (Builtin.List.listSubscript? (.int k t) >>= _) _ _ s
  refine wpAny_bind (wpAny_listSubscript_int (fitsIndex_both (by omega) (by omega)) ?_)
  clear hhi
  have h0 : 0 ≤ k := by omega
  obtain ⟨j, rfl⟩ : ∃ j : Nat, k = Int.ofNat j := ⟨k.toNat, (Int.toNat_of_nonneg h0).symm⟩
  have hx : items[j]? = none := Array.getElem?_eq_none (by have : (items.size : Int) ≤ (j : Int) := hout; omega)
  show wpAny _ _ ((seqItemAt l j >>= fun r => pure (r.map (j, ·))) >>= _) _ _ s
  refine wpAny_bind (wpAny_bind (wpAny_seqItemAt ho hd (wpAny_pure ?_)))
  rw [hx]
  have hc1 : CtxOk A.in1 s.heap := hc
  first
    | exact wpAny_bind (wpAny_rule (raise_idx (G := G) hc1 hE))
    | exact wpAny_bind (wpAny_rule (wpAny_bind (raise_idx (G := G) hc1 hE)))

/-- the frame is noted in a new exception -/
theorem note_new {n : Nat} {L e : Addr} {ctx : Value} {Q : Unit → Shared → Prop} (g : Go G n A s.heap ∨ ∃ l, A.frames = some l ∧ FrF G.Bs s.heap l) (hfr : ∃ l, A.frames = some (env :: l)) (hf : env.frame = some L) (x : XAt s.heap e .none ctx)
    (h : ∀ h' T, Kb G.Bs (· = e) s.heap h' → s.heap.get? T = none → T ≠ e → XAt h' e (.ref T) ctx → TAt h' T (rawInt L) → Q () { s with heap := h' }) : wpAny (model G.prog G.w) A (noteFrame (.ref e) env) Q E s := by
  obtain ⟨l, hl⟩ := hfr
  have fr : FrF G.Bs s.heap (env :: l) := by
    rcases g with g | ⟨l', e', f⟩
    · obtain ⟨l', e', f⟩ := g.fr; rw [hl] at e'; cases e'; exact f
    · rw [hl] at e'; cases e'; exact f
  obtain ⟨o, t, z, c, d⟩ := x
  have FF : s.heap.FunFrames G.Bs (env :: l) := by
    clear hf h
    generalize env :: l = ll at fr
    induction ll with
    | nil => trivial
    | cons a r ih =>
      obtain ⟨k1, L', o', es, nn, k2, k3, k4, k5⟩ := fr a List.mem_cons_self
      exact ⟨k1, ⟨L', o', k2, k3, k4, fun vs q => by rw [k5] at q; cases q⟩, ih fun y m => fr y (List.mem_cons_of_mem _ m)⟩
  unfold noteFrame
  simp only [hf]
  refine wpAny_bind (wpAny_field z d (x := .none) rfl ?_)
  rw [if_neg (by decide)]
  refine wpAny_bind (wpAny_frameOf_fun hl FF hf fun h₁ hs₁ => ?_)
  refine wpAny_bind (wpAny_entryPlaceOf fun pl hpl => ?_)
  unfold EntryCells.newEntry newFields
  refine wpAny_bind (wpAny_newObj_type ?_ (hpl.sizeOk5 _ _ _ _ _))
  have k1 : Kp G.Bs s.heap h₁ := fun a oa ea => by
    by_cases m : a ∈ (env :: l).filterMap (·.frame)
    · obtain ⟨env', m', q⟩ := List.mem_filterMap.mp m
      obtain ⟨_, L', o', es, nn, k2, k3, k4, k5⟩ := fr env' m'
      rw [q] at k2; cases k2
      rw [ea] at k4; cases k4
      obtain ⟨sl, e'⟩ := hs₁.2.2 a oa ea
      exact ⟨_, e', .inr ⟨k3, ⟨es, nn, k5⟩, sl, rfl⟩⟩
    · exact ⟨oa, (hs₁.2.1 a m).trans ea, .refl⟩
  have z1 : h₁.get? e = some o := k1.ex z (fun _ _ q => by rw [d] at q; cases q)
  have z2 := Heap.get?_push_of_some (h := h₁) { cls := .type "traceback", dict := none, data := .fields ([.none, .ref L, .none, rawInt L, .none] ++ (if pl.isEmpty then List.replicate 6 Value.none else pl)).toArray } z1
  have hTe : h₁.objs.size ≠ e := Nat.ne_of_gt (Heap.lt_size z1)
  have nT : s.heap.get? h₁.objs.size = none := none_of_kp k1 (none_ge (Nat.le_refl _))
  refine wpAny_setField z2 d (i := 1) (by simp) ?_
  obtain ⟨o3, z3, c3, d3⟩ := fields_update z2 d 1 (.ref h₁.objs.size)
  refine h _ h₁.objs.size ?_ nT hTe ⟨o3, t, z3, c3.trans c, d3⟩ ?_
  · exact (Kb.of (k1.trans (Kp.push _))).trans (kb_of_update _)
  · refine ⟨_, _, (Heap.get?_update_other _ _ (Ne.symm hTe)).trans (Heap.get?_push_size h₁ rfl), rfl, ?_⟩
    first | (simp; done) | (rcases hpl with rfl | ⟨_, _, _, _, _, _, _, rfl⟩ <;> simp)
/-- it is noted already -/
theorem note_again {L e T : Addr} {ctx : Value} {Q : Unit → Shared → Prop} (hf : env.frame = some L) (x : XAt s.heap e (.ref T) ctx) (y : TAt s.heap T (rawInt L)) (h : Q () s) : wpAny (model G.prog G.w) A (noteFrame (.ref e) env) Q E s := by
  obtain ⟨o, t, z, c, d⟩ := x
  obtain ⟨o', ts, z', d', q⟩ := y
  unfold noteFrame
  simp only [hf]
  refine wpAny_bind (wpAny_field z d (x := .ref T) rfl ?_)
  rw [if_pos (by simp)]
  refine wpAny_bind (wpAny_field z' d' q ?_)
  rw [if_pos (by simp)]
  exact wpAny_pure h
theorem set_flight {e T : Addr} {ctx fl : Value} {f : Option Addr} {Q : Unit → Shared → Prop} (x : XAt s.heap e (.ref T) ctx) (y : TAt s.heap T fl) (hT : T ≠ e)
    (h : ∀ h', Kb G.Bs (· = T) s.heap h' → XAt h' e (.ref T) ctx → TAt h' T (f.elim .none fun f => rawInt f) → Q () { s with heap := h' }) : wpAny (model G.prog G.w) A (setFlight (.ref e) f) Q E s := by
  obtain ⟨o', ts, z', d', q⟩ := y
  have sz : 3 < ts.size := (Array.getElem?_eq_some_iff.mp q).1
  have x' := x
  obtain ⟨o, t, z, c, d⟩ := x
  unfold setFlight
  refine wpAny_bind (wpAny_field z d (x := .ref T) rfl ?_)
  rw [if_pos (by simp)]
  refine wpAny_setField z' d' sz (h _ (kb_of_update _) (x'.kb (kb_of_update (Bs := G.Bs) _) (Ne.symm hT)) ?_)
  obtain ⟨o3, z3, c3, d3⟩ := fields_update z' d' 3 (f.elim .none fun f => rawInt f)
  exact ⟨o3, _, z3, d3, by simp [sz]⟩
/-- out of a code of the frame's own -/
theorem came_back {e T : Addr} {ctx fl : Value} (x : XAt s.heap e (.ref T) ctx) (y : TAt s.heap T fl) (hT : T ≠ e) {L : Addr} (hf : env.frame = some L)
    (h : ∀ h', Kb G.Bs (· = T) s.heap h' → XAt h' e (.ref T) ctx → TAt h' T (rawInt L) → E (.ref e) { s with heap := h' }) : cameBackBy (model G.prog G.w) A env E (.ref e) s := by
  obtain ⟨o, t, z, c, d⟩ := id x
  unfold cameBackBy
  refine wpAny_bind (wpAny_field z d (x := .ref T) rfl ?_)
  rw [if_neg (by simp)]
  rw [hf]
  exact set_flight x y hT h
end
end Mine
namespace Mine
theorem plain_update {h : Heap} {D : Addr} {its : Array Value} (hl : h.PlainList D its) (f : Array Value → Array Value) : (h.update D (Obj.mapSeq f)).PlainList D (f its) := by
  obtain ⟨n, e⟩ := hl
  exact ⟨_, Heap.get?_update_self _ e rfl⟩
theorem Kp.plain {Bs h h' : Heap} {D : Addr} {its : Array Value} (k : Kp Bs h h') (hl : h.PlainList D its) : h'.PlainList D its := by
  obtain ⟨n, e⟩ := hl
  exact ⟨n, k.ex e fun _ _ q => nomatch q⟩
theorem Stays.plain {X : List Addr} {h h' : Heap} {D : Addr} {its : Array Value} (k : Stays X h h') (hl : h.PlainList D its) (hD : D ∉ X) : h'.PlainList D its := by
  obtain ⟨n, e⟩ := hl
  exact ⟨n, k D _ _ _ e rfl (.inr ⟨rfl, hD⟩)⟩
theorem Chg.plain {Bs : Heap} {env : Env} {xs : List Str} {Y : List Addr} {h h' : Heap} {D : Addr} {its : Array Value} (k : Chg Bs env xs Y h h') (hl : h.PlainList D its) (hD : D ∉ Y) : h'.PlainList D its := k.st.plain hl hD
theorem Still.plain {env : Env} {xs : List Str} {h h' : Heap} {D : Addr} {its : Array Value} (k : Still env xs h h') (hl : h.PlainList D its) : h'.PlainList D its := k.st.plain hl List.not_mem_nil
section
variable {G : Gl} {A : Around} {s : Shared} {env : Env} {E : Value → Shared → Prop} {Q : Value → Shared → Prop} {pos apos : Pos}
/-- a method of a list of one's own -/
theorem meth {o e : Expr} {rest : List Expr} {name : Str} {id : String} {D : Addr} {its : Array Value} {R1 : Heap → List Value → Prop} (hf : EvV G A env s.heap o (.ref D)) (hl : s.heap.PlainList D its)
    (ha : Does G A s.heap (spliced (backTo pos (starEach (e :: rest) env))) R1) (slot : Slot "list" name id) (hty : typeOf (.builtin id) = pure (.type "method_descriptor"))
    (cont : ∀ vs h' tk, Kp G.Bs s.heap h' → R1 h' vs → wpAny (model G.prog G.w) A (call (.builtin id) (.ref D :: vs)) Q E { s with heap := h', toks := tk })
    (hbase : attributeBase o name env (eval o env) = eval o env := by rfl)
    (hfew : ((backTo pos (starEach (e :: rest) env)).all (fun x => !x.1) && (backToKw pos (keywordEach [] env)).all (fun x => x.1.isSome)
      && decide ((e :: rest).length + ([] : List Keyword).length + (if ([] : List Keyword).isEmpty then 0 else 1) < 30)) = true := by rfl)
    (hline : (apos.endLine == pos.line) = true := by rfl)
    (hs : starEach (e :: rest) env = (false, eval e env) :: starEach rest env := by rfl) (hp : (backTo pos (starEach rest env)).any (·.1) = false := by rfl) :
    wpAny (model G.prog G.w) A (eval (.Call (.Attribute o name apos) (e :: rest) [] pos) env) Q E s := by
  refine wpAny_Call_method hbase hfew hline PySem.F.plainAttrs_list slot hty (hf s _ E (Kp.refl _) fun v h' tk k r => ?_)
  subst r
  obtain ⟨n, eo⟩ := k.plain hl
  refine ⟨⟨_, eo, rfl⟩, fun a q => by cases q; exact ⟨_, eo, rfl⟩, ?_⟩
  exact callWith_method1 (ha _ _ E k fun vs h'' tk' k' r => cont vs h'' tk' (k.trans k') r) hs hp
theorem do_append {D : Addr} {its : Array Value} {x : Value} (hl : s.heap.PlainList D its) (hsz : its.size ≤ sizeLine)
    (h : ∀ h', h'.PlainList D (its.push x) → Chg G.Bs env [] [D] s.heap h' → Q .none { s with heap := h' }) : wpAny (model G.prog G.w) A (call (.builtin "list.append") [.ref D, x]) Q E s :=
  wpAny_list_append_plain hl (fun h' hl' s' => h h' hl' (Chg.mut hl.isList hl'.isList s')) hsz
theorem do_extend {D b : Addr} {its its2 : Array Value} (hl : s.heap.PlainList D its) (hb : s.heap.PlainList b its2) (hsz : its.size + its2.size ≤ 1000000)
    (h : ∀ h', h'.PlainList D (its ++ its2) → Chg G.Bs env [] [D] s.heap h' → Q .none { s with heap := h' }) : wpAny (model G.prog G.w) A (call (.builtin "list.extend") [.ref D, .ref b]) Q E s := by
  have hp := plain_update hl (fun x => x ++ its2)
  have hc : Chg G.Bs env [] [D] s.heap (s.heap.update D (Obj.mapSeq fun x => x ++ its2)) := Chg.mut hl.isList hp.isList (Heap.SameBut.update ..)
  obtain ⟨n, e⟩ := hl
  obtain ⟨n2, e2⟩ := hb
  refine call_meets PySem.F.slot_list_extend ⟨_, e, rfl⟩ PySem.F.entry_list_extend (PySem.F.args_list_extend_2 _ _) (AutoSeq1.list_extend_list_list_0 D its n b its2 n2 ?_ (by rw [sizeLine_eq]; omega) (by rw [sizeLine_eq]; omega)) ⟨e, e2, h _ hp hc⟩
  simp only [Bool.and_eq_true, not_and, Bool.not_eq_true]
  intro _
  unfold Builtin.List.listTooLong
  simp only [decide_eq_false_iff_not, sizeLine_eq]
  omega
theorem do_insert {D : Addr} {its : Array Value} {x : Int} {u : Tok} {y : Value} (hl : s.heap.PlainList D its) (h0 : 0 ≤ x) (hk : x.toNat ≤ its.size) (hsz : its.size ≤ 1000000)
    (h : ∀ h', h'.PlainList D ((its.extract 0 x.toNat).push y ++ its.extract x.toNat) → Chg G.Bs env [] [D] s.heap h' → Q .none { s with heap := h' }) : wpAny (model G.prog G.w) A (call (.builtin "list.insert") [.ref D, .int x u, y]) Q E s := by
  have hp := plain_update hl (fun xs => have k := if x < 0 then (x + ((xs.size : Nat) : Int)).toNat else min x.toNat xs.size; (xs.extract 0 k).push y ++ xs.extract k)
  have hc : Chg G.Bs env [] [D] s.heap (s.heap.update D (Obj.mapSeq fun xs => have k := if x < 0 then (x + ((xs.size : Nat) : Int)).toNat else min x.toNat xs.size; (xs.extract 0 k).push y ++ xs.extract k)) := Chg.mut hl.isList hp.isList (Heap.SameBut.update ..)
  have e1 : (if x < 0 then (x + ((its.size : Nat) : Int)).toNat else min x.toNat its.size) = x.toNat := by
    rw [if_neg (by omega)]; omega
  have hp' := hp
  simp only [e1] at hp'
  have fin := h _ hp' hc
  have ft : ¬ (!Builtin.List.listFitsIndex x) = true := by simp [Builtin.List.listFitsIndex]; omega
  obtain ⟨n, e⟩ := hl
  exact call_meets PySem.F.slot_list_insert ⟨_, e, rfl⟩ PySem.F.entry_list_insert (PySem.F.args_list_insert_3 _ _ _) (AutoListH.list_insert_list_int_val_1 D its n x u y ft (by rw [sizeLine_eq]; omega)) ⟨e, fin⟩
theorem do_pop {D : Addr} {its : Array Value} {x : Int} {u : Tok} {y : Value} (hl : s.heap.PlainList D its) (h0 : 0 ≤ x) (hy : its[x.toNat]? = some y) (hsz : its.size ≤ 1000000)
    (h : ∀ h', h'.PlainList D (its.eraseIdxIfInBounds x.toNat) → Chg G.Bs env [] [D] s.heap h' → Q y { s with heap := h' }) : wpAny (model G.prog G.w) A (call (.builtin "list.pop") [.ref D, .int x u]) Q E s := by
  have hp := plain_update hl (fun xs => xs.eraseIdxIfInBounds x.toNat)
  have hc : Chg G.Bs env [] [D] s.heap (s.heap.update D (Obj.mapSeq fun xs => xs.eraseIdxIfInBounds x.toNat)) := Chg.mut hl.isList hp.isList (Heap.SameBut.update ..)
  have fin := h _ hp hc
  have hk : x.toNat < its.size := (Array.getElem?_eq_some_iff.mp hy).1
  have ft : Builtin.List.listFitsIndex x = true := by simp [Builtin.List.listFitsIndex]; omega
  have ix : seqIndex? x its.size = some x.toNat := by
    unfold seqIndex?
    simp
    omega
  obtain ⟨n, e⟩ := hl
  exact call_meets PySem.F.slot_list_pop ⟨_, e, rfl⟩ PySem.F.entry_list_pop (PySem.F.args_list_pop_2 _ _) (MeetsSeq.list_pop_at D its n x u x.toNat y ft ix hy (by rw [sizeLine_eq]; omega)) ⟨e, fin⟩
end
end Mine
namespace Mine
section
variable {G : Gl} {A : Around} {env : Env} {h₁ : Heap} {X : List Addr} {pos p : Pos} {value : Expr} {lower upper : Option Expr} {lo hi : Option Int} {ds ds' : List PyData}
abbrev Pt (G : Gl) (A : Around) (env : Env) (h₁ : Heap) (x : Option Expr) (v : Option Int) : Prop := Does G A h₁ (evalPart x env) (fun _ u => IsPart u v)
theorem pt_none : Pt G A env h₁ none none := Does.pure fun _ _ => .none
theorem pt_some {e : Expr} {i : Int} (he : Ev G A env h₁ X e (.int i)) : Pt G A env h₁ (some e) (some i) := he.imp fun _ _ _ r => by obtain ⟨t, rfl⟩ := r.ofInt; exact .int i t
/-- a cut of a list: a new list -/
theorem does_slice (hv : Ev G A env h₁ X value (.list ds)) (hl : Pt G A env h₁ lower lo) (hu : Pt G A env h₁ upper hi) (hp : ∀ h vs, RpL X h vs ds → RpL X h (slicePick vs.toArray lo hi none).toList ds') (hsz : ds.length ≤ sizeLine)
    (ht : ∀ o r, letTemporaryGo value o r = pure () := by intro _ _; rfl) :
    Does G A h₁ (eval (.Subscript value (.Slice lower upper none p) pos) env) (fun h v => ∃ D ys, v = .ref D ∧ h₁.get? D = none ∧ h.PlainList D (List.toArray ys) ∧ RpL X h ys ds') := by
  intro s Q E k hQ
  refine wpAny_Subscript_Slice slot_list_getitem.lookup (hv s _ E k fun v h2 tk2 k2 r => ?_) ht
  obtain ⟨a, vs, rfl, hx, il, rl⟩ := r.ofList
  refine wpAny_Slice (hl _ _ E (k.trans k2) fun vl h3 tk3 k3 r3 => hu _ _ E (k.trans (k2.trans k3)) fun vu h4 tk4 k4 r4 => ?_)
  refine wpAny_pure ?_
  dsimp only
  have k34 := k3.trans k4
  have kp5 : Kp G.Bs h4 (h4.push { cls := .type "slice", data := .fields #[vl, vu, .none] }) := Kp.push _
  have il4 := k34.list il
  have il5 := kp5.list il4
  refine ⟨il5.typeIs, wpAny_getItem_list_slice il5 (Heap.IsSliceOf.new ..) r3 r4 .none (by simp) ?_ (by rw [List.size_toArray, rl.length]; exact hsz)⟩
  have kp6 : Kp G.Bs (h4.push { cls := .type "slice", data := .fields #[vl, vu, .none] }) ((h4.push { cls := .type "slice", data := .fields #[vl, vu, .none] }).push { cls := .type "list", data := .seq (slicePick vs.toArray lo hi none) }) := Kp.push _
  have kall := k2.trans (k34.trans (kp5.trans kp6))
  refine hQ _ _ _ kall ⟨_, (slicePick vs.toArray lo hi none).toList, rfl, ?_, ⟨_, Heap.get?_push_size _ rfl⟩, hp _ vs (rl.keep (k34.trans (kp5.trans kp6)))⟩
  exact none_of_kp (k.trans (k2.trans (k34.trans kp5))) (none_ge (Nat.le_refl _))
theorem ev_slice (hX : Al X h₁) (hv : Ev G A env h₁ X value (.list ds)) (hl : Pt G A env h₁ lower lo) (hu : Pt G A env h₁ upper hi) (hp : ∀ h vs, RpL X h vs ds → RpL X h (slicePick vs.toArray lo hi none).toList ds') (hsz : ds.length ≤ sizeLine)
    (ht : ∀ o r, letTemporaryGo value o r = pure () := by intro _ _; rfl) : Ev G A env h₁ X (.Subscript value (.Slice lower upper none p) pos) (.list ds') :=
  (does_slice hv hl hu hp hsz ht).imp fun h v k r => by
    obtain ⟨D, ys, rfl, n, pl, rl⟩ := r
    exact Rp.list pl.isList (hX.outOf n) rl
theorem pick_from (n : Nat) : ∀ h vs, RpL X h vs ds → RpL X h (slicePick vs.toArray (some (n : Nat)) none none).toList (ds.drop n) := fun h vs r => by
  rw [slicePick_from']; simpa using r.drop n
theorem pick_upto (n : Nat) : ∀ h vs, RpL X h vs ds → RpL X h (slicePick vs.toArray none (some (n : Nat)) none).toList (ds.take n) := fun h vs r => by
  rw [slicePick_upto']; simpa using r.take n
theorem pick_butLast : ∀ h vs, RpL X h vs ds → RpL X h (slicePick vs.toArray none (some (-1)) none).toList (ds.take (ds.length - 1)) := fun h vs r => by
  have := slicePick_butLast vs.toArray 1 (by decide)
  rw [show (-((1 : Nat) : Int)) = -1 from rfl] at this
  rw [this]
  simpa [r.length] using r.take (ds.length - 1)
theorem pick_run {a b : Nat} : ∀ h vs, RpL X h vs ds → RpL X h (slicePick vs.toArray (some (a : Nat)) (some (b : Nat)) none).toList ((ds.drop a).take (b - a)) := fun h vs r => by
  rw [slicePick_plain]
  simp only [Option.elim, clipAt_nat, List.size_toArray]
  have e : (List.take (min b vs.length - min a vs.length) (List.drop (min a vs.length) vs)) = (vs.drop a).take (b - a) := by
    rcases Nat.le_total a vs.length with h | h
    · rw [Nat.min_eq_left h]
      rcases Nat.le_total b vs.length with h' | h'
      · rw [Nat.min_eq_left h']
      · rw [Nat.min_eq_right h', List.take_of_length_le (by simp), List.take_of_length_le (by simp; omega)]
    · rw [Nat.min_eq_right h, List.drop_of_length_le (Nat.le_refl _), List.drop_of_length_le h]; simp
  have := (r.drop a).take (b - a)
  rw [← e] at this
  simpa using this
end
end Mine
namespace Mine
noncomputable abbrev KH (w : World) : Frag := hd.heap_39 w.params
theorem g_range (w : World) : nsIn (KH w) mainGlobals "range" = some none := by rfl
theorem g_len (w : World) : nsIn (KH w) mainGlobals "len" = some none := by rfl
/-- the places of a number -/
def placesF (n : Int) (ms : List Int) : List Int := ((List.range 7).filter fun c => (n.fdiv (2 ^ c)).fmod 2 == 1).map fun c => ms.getD c 0
theorem places_spec {G : Gl} {A : Around} {h₁ : Heap} {X : List Addr} {k : Nat} (W : Wd (KH G.w) G.Bs) (g : Go G (k + 1) A h₁) (hX : Al X h₁) {n : Int} {ms : List Int} (hm : ms.length = 7) {vn vm : Value}
    (rn : Rp X h₁ vn (.int n)) (rm : Rp X h₁ vm (dInts ms)) (hn : 0 ≤ n) (hn' : n < 2 ^ 64) : Does G A h₁ (call (.ref 66) [vn, vm]) (fun h v => Rp X h v (dInts (placesF n ms))) := by
  refine call_def ["number", "marks"] g W (W.K 66 _ rfl) rfl rfl rfl rfl rfl rfl rfl (by decide) rfl ?_
  intro s₀ h tk k₀ F P g'
  have kh := k₀.trans F.keep
  have Vn : Var X _ h "number" (.int n) := ⟨vn, P _ (.head _), rn.keep kh⟩
  have Vm : Var X _ h "marks" (dInts ms) := ⟨vm, P _ (.tail _ (.head _)), rm.keep kh⟩
  refine ret_ev F ?_
  refine ev_comp' (xs := List.range 7) (enc := fun i => .int (i : Nat)) (fun c => (n.fdiv (2 ^ c)).fmod 2 == 1) (fun c => .int (ms.getD c 0))
    (Block.locals rfl rfl (by decide) (by decide)) g'.hd (hX.keep kh) ?_ (by decide) ?_ ?_
  · exact it_range W g'.hd g'.base (g_range _) ev_int (by decide)
  · intro c hc
    have hc7 : c < 7 := List.mem_range.mp hc
    refine ⟨trivial, fun C D h' kp nD nC al tv => ?_, fun C D h' hp kp nD nC al tv => ?_⟩
    · refine tr_eqi (ev_mod (ev_fdiv (ev_name ((Vn.fresh nD).keep kp).inner rfl) (ev_pow ev_int (ev_name tv rfl) (by omega) (by omega) (by decide)) (two_pow_ne _) (pylong_small (two_pow_abs (by omega)))) ev_int (by decide)) ev_int
    · exact ev_item (ds := ms.map .int) (ev_name ((Vm.fresh nD).keep kp).inner rfl) (ev_name tv rfl) (by omega) (by omega) (by simp [hm, hc7])
  · show dInts _ = _
    simp only [dInts, placesF, List.map_map]
    rfl
end Mine
namespace Mine
section
variable {G : Gl} {A : Around} {s : Shared} {env : Env} {E : Value → Shared → Prop} {pos : Pos}
theorem look_name {x : Str} {p : Pos} {v : Value} {Q : Value → Shared → Prop} (l : Look env s.heap x v) (hk : env.scope.kind = .function) (h : Q v s) (hd : (x == ("__debug__" : Str)) = false := by decide) : wpAny (model G.prog G.w) A (eval (.Name x p) env) Q E s := by
  rcases l with ⟨a, m, n, e⟩ | ⟨a, c, e, i⟩
  · exact wpAny_Name (wpAny_loadName_local hk a n e h) hd
  · rcases a with a | ⟨a, b⟩
    · exact wpAny_Name (wpAny_loadName_cell hk a e i h) hd
    · exact wpAny_Name (wpAny_loadName_free hk a e i h b) hd
theorem IntsAre.get {vs : List Value} {ns : List Int} (h : IntsAre vs ns) : ∀ {k : Nat} {z : Int}, ns[k]? = some z → ∃ t, vs[k]? = some (.int z t) := by
  induction h with
  | nil => intro k z e; cases e
  | cons n t _ ih =>
    intro k z e
    cases k with
    | zero => cases e; exact ⟨t, rfl⟩
    | succ k => exact ih (by simpa using e)
theorem IntsAre.len {vs : List Value} {ns : List Int} (h : IntsAre vs ns) : vs.length = ns.length := by
  induction h with
  | nil => rfl
  | cons n t _ ih => simp [ih]
theorem item_or {nm ix : Str} {pn pi : Pos} {l : Addr} {vs : List Value} {ns : List Int} {k : Nat} {t : Tok} {Q : Value → Shared → Prop} (hk : env.scope.kind = .function) (ln : Look env s.heap nm (.ref l)) (li : Look env s.heap ix (.int (k : Nat) t))
    (hl : s.heap.IsList l vs.toArray) (hi : IntsAre vs ns) (hc : CtxOk A s.heap) (hlen : k < 2 ^ 61)
    (h1 : ∀ z t', ns[k]? = some z → Q (.int z t') s)
    (h0 : ns.length ≤ k → ∀ h' tk e ctx, Kp G.Bs s.heap h' → s.heap.get? e = none → XAt h' e .none ctx → (A.handled = none → ctx = .none) → E (.ref e) { s with heap := h', toks := tk })
    (d1 : (nm == ("__debug__" : Str)) = false := by decide) (d2 : (ix == ("__debug__" : Str)) = false := by decide) :
    wpAny (model G.prog G.w) A (eval (.Subscript (.Name nm pn) (.Name ix pi) pos) env) Q E s := by
  refine Subscript_ (look_name ln hk (look_name li hk ?_ d2) d1)
  refine tail_any hl.typeIs slot_list_getitem.lookup ?_ (by with_unfolding_all rfl)
  by_cases q : k < ns.length
  · obtain ⟨z, ez⟩ : ∃ z, ns[k]? = some z := ⟨_, List.getElem?_eq_getElem q⟩
    obtain ⟨t', e'⟩ := IntsAre.get hi ez
    exact wpAny_getItem_list hl (by omega) (by omega) (by simpa using e') (h1 z t' ez)
  · exact get_out hc hl (by rw [List.size_toArray, IntsAre.len hi]; omega) (by omega) (h0 (by omega))
theorem inner_while {nm ix vn : Str} {p1 p2 p3 p4 p5 : Pos} {body : List Stmt} {l : Addr} {vs : List Value} {ns : List Int} {k : Nat} {z : Int} {t t2 : Tok} {L : Addr} {Q : Flow → Shared → Prop} (hk : env.scope.kind = .function) (hf : env.frame = some L)
    (hfr : ∃ l, A.frames = some (env :: l) ∧ FrF G.Bs s.heap (env :: l))
    (ln : Look env s.heap nm (.ref l)) (li : Look env s.heap ix (.int (k : Nat) t)) (lv : Look env s.heap vn (.int z t2)) (hl : s.heap.IsList l vs.toArray) (hi : IntsAre vs ns) (hc : CtxOk A s.heap) (hlen : k < 2 ^ 61)
    (hne : ∀ u, ns[k]? = some u → u ≠ z) (h1 : k < ns.length → Q .next s)
    (h0 : ns.length ≤ k → ∀ h' tk e T ctx, Kp G.Bs s.heap h' → s.heap.get? e = none → s.heap.get? T = none → T ≠ e → XAt h' e (.ref T) ctx → TAt h' T (rawInt L) → (A.handled = none → ctx = .none) → E (.ref e) { s with heap := h', toks := tk })
    (d1 : (nm == ("__debug__" : Str)) = false := by decide) (d2 : (ix == ("__debug__" : Str)) = false := by decide) (d3 : (vn == ("__debug__" : Str)) = false := by decide) :
    wpAny (model G.prog G.w) A (exec (.While (.Compare (.Subscript (.Name nm p1) (.Name ix p2) p3) [.Eq] [.Name vn p4] p5) body [] pos) env) Q E s := by
  refine wpAny_While (codeAny_whileLoop (fun n s' => n = 0 ∧ s' = s) ?_ 0 ⟨rfl, rfl⟩)
  rintro n s' ⟨rfl, rfl⟩
  refine wpAny_isTrue_Compare1 (item_or hk ln li hl hi hc hlen (fun u t' eu => ?_) (fun hle h' tk e ctx kp ne x hx => ?_) d1 d2)
  · refine look_name lv hk ?_ d3
    refine eq_int (wpAny_truthy_bool ?_)
    rw [show (u == z) = false from by simpa using hne u eu]
    exact wpAny_execs_nil (h1 (List.getElem?_eq_some_iff.mp eu).1)
  · obtain ⟨l', e1, f1⟩ := hfr
    refine note_new (n := 0) (.inr ⟨_, e1, f1.keep kp⟩) ⟨l', e1⟩ hf x fun h2 T kb nT hTe x2 t2' => ?_
    have kp2 : Kp G.Bs s'.heap h2 := kb.kp kp fun b q => by rw [q]; exact ne
    have nT' : s'.heap.get? T = none := none_of_kp kp nT
    refine came_back x2 t2' hTe hf fun h3 kb3 x3 t3 => ?_
    exact h0 hle h3 tk e T ctx (kb3.kp kp2 fun b q => by rw [q]; exact nT') ne nT' hTe x3 t3 hx
end
/-- the state of the walk along the two lists -/
structure SS (G : Gl) (s₀ : Shared) (env : Env) (x y D1 D2 : Addr) (i j : Nat) (ms us : List Int) (h : Heap) : Prop where
  F : Fn G s₀ env h
  ve : Look env h "expected" (.ref x)
  va : Look env h "actual" (.ref y)
  vi : ∃ t, Look env h "i" (.int (i : Nat) t)
  vj : ∃ t, Look env h "j" (.int (j : Nat) t)
  vm : Look env h "missing" (.ref D1)
  vu : Look env h "unexpected" (.ref D2)
  l1 : ∃ vs, h.PlainList D1 (List.toArray vs) ∧ IntsAre vs ms
  l2 : ∃ vs, h.PlainList D2 (List.toArray vs) ∧ IntsAre vs us
section
variable {G : Gl} {s₀ : Shared} {env : Env} {x y D1 D2 : Addr} {i j : Nat} {ms us : List Int} {h h' : Heap}
theorem SS.chg {zs : List Str} {Y : List Addr} (S : SS G s₀ env x y D1 D2 i j ms us h) (c : Chg G.Bs env zs Y h h') (hz : ∀ n ∈ (["expected", "actual", "i", "j", "missing", "unexpected"] : List Str), n ∉ zs) (h1 : D1 ∉ Y) (h2 : D2 ∉ Y) (hY : ∀ y ∈ Y, s₀.heap.get? y = none) :
    SS G s₀ env x y D1 D2 i j ms us h' :=
  have ap := S.F.ap
  ⟨S.F.chg c hY, c.look ap (hz _ (by decide)) S.ve, c.look ap (hz _ (by decide)) S.va, S.vi.imp fun _ q => c.look ap (hz _ (by decide)) q, S.vj.imp fun _ q => c.look ap (hz _ (by decide)) q, c.look ap (hz _ (by decide)) S.vm, c.look ap (hz _ (by decide)) S.vu,
    S.l1.imp fun _ q => ⟨c.plain q.1 h1, q.2⟩, S.l2.imp fun _ q => ⟨c.plain q.1 h2, q.2⟩⟩
theorem SS.kp (S : SS G s₀ env x y D1 D2 i j ms us h) (k : Kp G.Bs h h') : SS G s₀ env x y D1 D2 i j ms us h' :=
  S.chg (Chg.ofKp k) (fun _ _ q => nomatch q) (fun q => nomatch q) (fun q => nomatch q) fun _ q => nomatch q
end
end Mine
namespace Mine
theorem g_IndexError (w : World) : nsIn (KH w) mainGlobals "IndexError" = some none := by rfl
theorem sub_idx_base : isSubtype (.type "IndexError") (.type "BaseException") = pure true := by rw [isSubtype_type]; kernel_rfl
theorem sub_idx_idx : isSubtype (.type "IndexError") (.type "IndexError") = pure true := by rw [isSubtype_type]; kernel_rfl
theorem sub_meta_tuple : isSubtype (.type ((Manifest.find? "IndexError").elim "type" fun x => x.metatype)) (.type "tuple") = pure false := by rw [isSubtype_type]; kernel_rfl
/-- an exception on its way within the frame -/
def XO (s₀ : Shared) (h' : Heap) (L a : Addr) : Prop := s₀.heap.get? a = none ∧ ((∃ ctx, XAt h' a .none ctx) ∨ ∃ T ctx, s₀.heap.get? T = none ∧ T ≠ a ∧ XAt h' a (.ref T) ctx ∧ TAt h' T (rawInt L))
theorem XAt.chg {Bs h h' : Heap} {env : Env} {e : Addr} {tb ctx tb' ctx' : Value} (x : XAt h e tb ctx) (x' : XAt h' e tb' ctx') (kb : Kb Bs (· = e) h h') : Chg Bs env [] [e] h h' := by
  obtain ⟨o, t, q, c, d⟩ := x
  obtain ⟨o', t', q', _⟩ := x'
  exact Chg.iter q (fun _ _ z => by rw [d] at z; cases z) (fun _ z => by rw [d] at z; cases z) (fun _ _ z => by rw [d] at z; cases z) ⟨o', q'⟩ kb
theorem TAt.chg {Bs h h' : Heap} {env : Env} {T : Addr} {fl fl' : Value} (x : TAt h T fl) (x' : TAt h' T fl') (kb : Kb Bs (· = T) h h') : Chg Bs env [] [T] h h' := by
  obtain ⟨o, t, q, d, c⟩ := x
  obtain ⟨o', t', q', _⟩ := x'
  exact Chg.iter q (fun _ _ z => by rw [d] at z; cases z) (fun _ z => by rw [d] at z; cases z) (fun _ _ z => by rw [d] at z; cases z) ⟨o', q'⟩ kb
theorem XAt.ne_plain {h : Heap} {e D : Addr} {tb ctx : Value} {its : Array Value} (x : XAt h e tb ctx) (p : h.PlainList D its) : D ≠ e := fun q => by
  subst q; obtain ⟨o, t, q, c, d⟩ := x; obtain ⟨n, q'⟩ := p; rw [q] at q'; cases q'; cases d
theorem TAt.ne_plain {h : Heap} {T D : Addr} {fl : Value} {its : Array Value} (x : TAt h T fl) (p : h.PlainList D its) : D ≠ T := fun q => by
  subst q; obtain ⟨o, t, q, d, c⟩ := x; obtain ⟨n, q'⟩ := p; rw [q] at q'; cases q'; cases d
section
variable {G : Gl} {s₀ : Shared} {env : Env} {h h' : Heap} {xs : List Str} {Y : List Addr} {e T : Addr} {tb ctx fl : Value}
theorem slot_fields {x : Str} {a : Addr} {o : Obj} {vs : Array Value} (F : Fn G s₀ env h) (e : slotOf env x = some a) (q : h.get? a = some o) (d : o.data = .fields vs) : False := by
  have c := F.can x a e
  unfold slotOf at e
  rcases c with ⟨b, m, n⟩ | ⟨b, c, u, e', i⟩
  · rw [b] at e; cases e; obtain ⟨o', _, _, q', d', _⟩ := n; rw [q] at q'; cases q'; rw [d] at d'; cases d'
  · rw [b, e'] at e; cases e; obtain ⟨o', q', d'⟩ := i; rw [q] at q'; cases q'; rw [d] at d'; cases d'
theorem XAt.over (x : XAt h e tb ctx) (F : Fn G s₀ env h) (c : Chg G.Bs env xs Y h h') (hY : e ∉ Y) : XAt h' e tb ctx :=
  x.kb c.keep fun z => z.elim (fun ⟨n, _, q⟩ => by obtain ⟨o, t, q', _, d⟩ := x; exact slot_fields F q q' d) hY
theorem TAt.over (x : TAt h T fl) (F : Fn G s₀ env h) (c : Chg G.Bs env xs Y h h') (hY : T ∉ Y) : TAt h' T fl :=
  x.kb c.keep fun z => z.elim (fun ⟨n, _, q⟩ => by obtain ⟨o, t, q', d, _⟩ := x; exact slot_fields F q q' d) hY
/-- the frames, seen from within -/
theorem Fn.frames {l : List Env} (F : Fn G s₀ env h) (fr : FrF G.Bs s₀.heap l) (hb : Kp G.Bs G.Bs s₀.heap) : FrF G.Bs h (env :: l) := fun env' m => by
  rcases List.mem_cons.mp m with rfl | m
  · obtain ⟨m, o, es, ep, e1, e2, _⟩ := F.loc
    exact ⟨by rw [F.kind]; simp, _, o, es, ep, F.frame, none_of_kp hb F.newL, e1, e2⟩
  · exact fr.keep F.keep env' m
end
theorem IntsAre.rpL {X : List Addr} {h : Heap} {vs : List Value} {ns : List Int} (i : IntsAre vs ns) : RpL X h vs (ns.map .int) := by
  induction i with
  | nil => exact RpL.nil
  | cons n t _ ih => exact RpL.cons (Rp.int n t) ih
theorem RpL.ints {X : List Addr} {h : Heap} : ∀ {vs : List Value} {ns : List Int}, RpL X h vs (ns.map .int) → IntsAre vs ns
  | vs, [], r => by rw [r.nil_inv]; exact .nil
  | vs, n :: ns, r => by
    obtain ⟨v, vs', rfl, a, b⟩ := RpL.cons_inv r
    obtain ⟨t, rfl⟩ := a.ofInt
    exact .cons n t (RpL.ints b)
section
variable {G : Gl} {A : Around} {s₀ : Shared} {env : Env} {x y D1 D2 : Addr} {i j : Nat} {ms us xs ys : List Int} {h0 h' : Heap} {vx vy : List Value} {L : Addr}
/-- one extend of the handler -/
theorem ext_one {nm ls ix : Str} {D l : Addr} {s : Shared} {vs vd : List Value} {ns md : List Int} {k : Nat} {t : Tok} {p1 p2 p3 p4 p5 p6 p7 pos : Pos} {rest : List Stmt} {Q : Flow → Shared → Prop} {E : Value → Shared → Prop}
    (hk : env.scope.kind = .function) (ln : Look env s.heap nm (.ref D)) (ll : Look env s.heap ls (.ref l)) (li : Look env s.heap ix (.int (k : Nat) t)) (hl : s.heap.IsList l vs.toArray) (hi : IntsAre vs ns) (hd : s.heap.PlainList D (List.toArray vd)) (hdi : IntsAre vd md)
    (hsz : md.length + ns.length ≤ 100000)
    (cont : ∀ h' tk vd', h'.PlainList D (List.toArray vd') → IntsAre vd' (md ++ ns.drop k) → Chg G.Bs env [] [D] s.heap h' → wpAny (model G.prog G.w) A (execs rest env) Q E { s with heap := h', toks := tk })
    (hline : (p2.endLine == p6.line) = true := by rfl) (hint : interactive env = false := by rfl)
    (d1 : (nm == ("__debug__" : Str)) = false := by decide) (d2 : (ix == ("__debug__" : Str)) = false := by decide) (d3 : (ls == ("__debug__" : Str)) = false := by decide) :
    wpAny (model G.prog G.w) A (execs (.Expr (.Call (.Attribute (.Name nm p1) "extend" p2) [.Subscript (.Name ls p3) (.Slice (some (.Name ix p4)) none none p5) p7] [] p6) pos :: rest) env) Q E s := by
  refine wpAny_execs_cons (wpAny_Expr ?_ hint (by rfl))
  have hv : Ev G A env s.heap [] (.Name ls p3) (.list (ns.map .int)) := ev_name ⟨_, ll, Rp.list hl (fun q => nomatch q) (IntsAre.rpL hi)⟩ hk d3
  have hix : Ev G A env s.heap [] (.Name ix p4) (.int (k : Nat)) := ev_name ⟨_, li, Rp.int _ _⟩ hk d2
  have hsl := does_slice (p := p5) (pos := p7) hv (pt_some hix) pt_none (pick_from k) (by rw [sizeLine_eq]; simp; omega)
  have har : Does G A s.heap (spliced (backTo p6 (starEach [.Subscript (.Name ls p3) (.Slice (some (.Name ix p4)) none none p5) p7] env))) (fun h ws => ∃ D' us', ws = [.ref D'] ∧ h.PlainList D' (List.toArray us') ∧ IntsAre us' (ns.drop k)) := fun s' Q' E' kp hQ =>
    args_cons (hsl s' _ E' kp fun v h2 tk2 k2 r => args_nil (by
      obtain ⟨D', us', rfl, _, pl, rl⟩ := r
      refine hQ _ h2 tk2 k2 ⟨D', us', rfl, pl, ?_⟩
      rw [← List.map_drop] at rl
      exact RpL.ints rl)) rfl
  refine meth (evV_name ln hk d1) hd har PySem.F.slot_list_extend PySem.F.type_list_extend (fun ws h2 tk2 k2 r => ?_) rfl rfl hline
  obtain ⟨D', us', rfl, pl, hi'⟩ := r
  have l1 : us'.length ≤ ns.length := by have := IntsAre.len hi'; rw [List.length_drop] at this; omega
  have l2 := IntsAre.len hdi
  refine do_extend (env := env) (k2.plain hd) pl (by simp; omega) fun h3 pl3 ch => ?_
  refine cont h3 tk2 (vd ++ us') (by simpa using pl3) (IntsAre.append hdi hi') ?_
  exact ((Chg.ofKp k2).trans ch)

theorem SS.X {a : Addr} {tb ctx tb' ctx' : Value} {h h' : Heap} (S : SS G s₀ env x y D1 D2 i j ms us h) (x0 : XAt h a tb ctx) (x1 : XAt h' a tb' ctx') (kb : Kb G.Bs (· = a) h h') (n : s₀.heap.get? a = none) : SS G s₀ env x y D1 D2 i j ms us h' :=
  S.chg (x0.chg x1 kb) (fun _ _ q => nomatch q) (fun q => by obtain ⟨v, p, _⟩ := S.l1; exact x0.ne_plain p (List.mem_singleton.mp q)) (fun q => by obtain ⟨v, p, _⟩ := S.l2; exact x0.ne_plain p (List.mem_singleton.mp q)) fun y m => by rw [List.mem_singleton.mp m]; exact n
theorem SS.T {T : Addr} {fl fl' : Value} {h h' : Heap} (S : SS G s₀ env x y D1 D2 i j ms us h) (x0 : TAt h T fl) (x1 : TAt h' T fl') (kb : Kb G.Bs (· = T) h h') (n : s₀.heap.get? T = none) : SS G s₀ env x y D1 D2 i j ms us h' :=
  S.chg (x0.chg x1 kb) (fun _ _ q => nomatch q) (fun q => by obtain ⟨v, p, _⟩ := S.l1; exact x0.ne_plain p (List.mem_singleton.mp q)) (fun q => by obtain ⟨v, p, _⟩ := S.l2; exact x0.ne_plain p (List.mem_singleton.mp q)) fun y m => by rw [List.mem_singleton.mp m]; exact n
theorem handler {a : Addr} {tk : Nat} {p1 p2 p3 p4 p5 p6 p7 p8 q1 q2 q3 q4 q5 q6 q7 q8 r1 r2 hp : Pos} {Q : Flow → Shared → Prop} {E : Value → Shared → Prop} {l : List Env} (W : Wd (KH G.w) G.Bs) (S : SS G s₀ env x y D1 D2 i j ms us h') (X : XO s₀ h' L a) (hD : D1 ≠ D2)
    (hf : env.frame = some L) (hl : A.frames = some (env :: l)) (fr : FrF G.Bs s₀.heap l) (hb : Kp G.Bs G.Bs s₀.heap)
    (hx : s₀.heap.IsList x vx.toArray) (hy : s₀.heap.IsList y vy.toArray) (ix : IntsAre vx xs) (iy : IntsAre vy ys) (n1 : s₀.heap.get? D1 = none) (n2 : s₀.heap.get? D2 = none) (s1 : ms.length + xs.length ≤ 100000) (s2 : us.length + ys.length ≤ 100000)
    (hQ : ∀ h'' tk, SS G s₀ env x y D1 D2 i j (ms ++ xs.drop i) (us ++ ys.drop j) h'' → Q .brk { s₀ with heap := h'', toks := tk })
    (hl1 : (p2.endLine == p6.line) = true := by rfl) (hl2 : (q2.endLine == q6.line) = true := by rfl) (hint : interactive env = false := by rfl) (hg : env.globals = mainGlobals := by rfl) (hbu : env.builtins = builtinsNs := by rfl) (hki : env.kindOf "IndexError" = some .globalImplicit := by rfl) :
    wpAny (model G.prog G.w) A (noteFrame (.ref a) env) (fun _ s₂ => wpAny (model G.prog G.w) A (setFlight (.ref a) none) (fun _ s₃ => wpAny (model G.prog G.w) A (handleBy (.ref a) env
      [.ExceptHandler (some (.Name "IndexError" r1)) none [.Expr (.Call (.Attribute (.Name "missing" p1) "extend" p2) [.Subscript (.Name "expected" p3) (.Slice (some (.Name "i" p4)) none none p5) p7] [] p6) p8,
        .Expr (.Call (.Attribute (.Name "unexpected" q1) "extend" q2) [.Subscript (.Name "actual" q3) (.Slice (some (.Name "j" q4)) none none q5) q7] [] q6) q8, .Break r2] hp]) Q E s₃) E s₂) E { s₀ with heap := h', toks := tk } := by
  obtain ⟨nA, xo⟩ := X
  -- the frame is noted
  have noted : ∀ (Q' : Unit → Shared → Prop), (∀ h1 T ctx, SS G s₀ env x y D1 D2 i j ms us h1 → s₀.heap.get? T = none → T ≠ a → XAt h1 a (.ref T) ctx → TAt h1 T (rawInt L) → Q' () { s₀ with heap := h1, toks := tk }) → wpAny (model G.prog G.w) A (noteFrame (.ref a) env) Q' E { s₀ with heap := h', toks := tk } := by
    intro Q' hQ'
    rcases xo with ⟨ctx, x0⟩ | ⟨T, ctx, nT, hT, x1, t1⟩
    · refine note_new (n := 0) (.inr ⟨_, hl, S.F.frames fr hb⟩) ⟨l, hl⟩ hf x0 fun h1 T kb nT hTe x1 t1 => ?_
      exact hQ' h1 T ctx (S.X x0 x1 kb nA) (none_of_kp S.F.keep nT) hTe x1 t1
    · exact note_again hf x1 t1 (hQ' h' T ctx S nT hT x1 t1)
  refine noted _ fun h1 T ctx S1 nT hT x1 t1 => ?_
  refine set_flight x1 t1 hT fun h2 kb2 x2 t2 => ?_
  have S2 := S1.T t1 t2 kb2 nT
  refine wpAny_handleBy_builtin (X := "IndexError") (T := "IndexError") (b := true) sub_idx_base sub_meta_tuple sub_idx_idx ?_
  refine ev_built W (hb.trans S2.F.keep) (g_IndexError _) PyProof.Rows.Boot.IndexError hg hbu S.F.kind hki (by decide) (by decide) _ _ _ (Kp.refl _) fun c h3 tk3 k3 e3 => ?_
  have x3 := x2.kp k3
  have t3 := t2.kp k3
  refine ⟨e3, ?_, ?_⟩
  · obtain ⟨o, t, q, c, _⟩ := x3; exact ⟨o, q, c⟩
  · rw [if_pos rfl]
    refine set_flight x3 t3 hT fun h4 kb4 x4 t4 => ?_
    have S4 := (S2.kp k3).T t3 t4 kb4 nT
    obtain ⟨vd1, pd1, id1⟩ := S4.l1
    obtain ⟨vd2, pd2, id2⟩ := S4.l2
    obtain ⟨ti, vi⟩ := S4.vi
    refine ext_one S4.F.kind S4.vm S4.ve vi (S4.F.keep.list hx) ix pd1 id1 s1 (fun h5 tk5 vd' pl5 il5 ch5 => ?_) hl1 hint
    have S5 : SS G s₀ env x y D1 D2 i j (ms ++ xs.drop i) us h5 := by
      have ap := S4.F.ap
      have hz : ∀ n : Str, n ∉ ([] : List Str) := fun _ q => nomatch q
      exact ⟨S4.F.chg ch5 (fun y m => by rw [List.mem_singleton.mp m]; exact n1), ch5.look ap (hz _) S4.ve, ch5.look ap (hz _) S4.va, S4.vi.imp fun _ q => ch5.look ap (hz _) q, S4.vj.imp fun _ q => ch5.look ap (hz _) q, ch5.look ap (hz _) S4.vm, ch5.look ap (hz _) S4.vu,
        ⟨vd', pl5, il5⟩, ⟨vd2, ch5.plain pd2 (fun m => hD (List.mem_singleton.mp m).symm), id2⟩⟩
    obtain ⟨vd2', pd2', id2'⟩ := S5.l2
    obtain ⟨tj, vj⟩ := S5.vj
    refine ext_one S5.F.kind S5.vu S5.va vj (S5.F.keep.list hy) iy pd2' id2' s2 (fun h6 tk6 vd6 pl6 il6 ch6 => ?_) hl2 hint
    refine wpAny_execs_cons (wpAny_Break ?_)
    refine hQ h6 tk6 ?_
    have ap := S5.F.ap
    have hz : ∀ n : Str, n ∉ ([] : List Str) := fun _ q => nomatch q
    obtain ⟨v1, p1', i1'⟩ := S5.l1
    exact ⟨S5.F.chg ch6 (fun y m => by rw [List.mem_singleton.mp m]; exact n2), ch6.look ap (hz _) S5.ve, ch6.look ap (hz _) S5.va, S5.vi.imp fun _ q => ch6.look ap (hz _) q, S5.vj.imp fun _ q => ch6.look ap (hz _) q, ch6.look ap (hz _) S5.vm, ch6.look ap (hz _) S5.vu,
      ⟨v1, ch6.plain p1' (fun m => hD (List.mem_singleton.mp m)), i1'⟩, ⟨vd6, pl6, il6⟩⟩
end
end Mine
namespace Mine
/-- what the one list has alone -/
def diffL (xs ys : List Int) : List Int := xs.filter fun z => !ys.contains z
abbrev Rising (xs : List Int) : Prop := xs.Pairwise (· < ·)
theorem diff_nil (ys : List Int) : diffL [] ys = [] := rfl
theorem diff_of_nil (xs : List Int) : diffL xs [] = xs := by simp [diffL]
theorem diff_cong {xs ys zs : List Int} (h : ∀ z ∈ xs, (z ∈ ys ↔ z ∈ zs)) : diffL xs ys = diffL xs zs := by
  unfold diffL
  refine List.filter_congr fun z hz => ?_
  have := h z hz
  by_cases q : z ∈ ys
  · have q' := this.mp q; simp [q, q']
  · have q' : z ∉ zs := fun m => q (this.mpr m); simp [q, q']
theorem diff_lt {x y : Int} {xs ys : List Int} (hx : Rising (x :: xs)) (hy : Rising (y :: ys)) (h : x < y) : diffL (x :: xs) (y :: ys) = x :: diffL xs (y :: ys) ∧ diffL (y :: ys) (x :: xs) = diffL (y :: ys) xs := by
  have hy' := (List.pairwise_cons.mp hy).1
  refine ⟨?_, diff_cong fun z hz => ?_⟩
  · have : x ∉ y :: ys := fun m => by
      rcases List.mem_cons.mp m with rfl | m
      · omega
      · have := hy' _ m; omega
    unfold diffL
    rw [List.filter_cons, if_pos (by simpa using this)]
  · have : z ≠ x := fun q => by
      subst q
      rcases List.mem_cons.mp hz with rfl | m
      · omega
      · have := hy' _ m; omega
    simp [this]
theorem diff_eq {x : Int} {xs ys : List Int} (hx : Rising (x :: xs)) (hy : Rising (x :: ys)) : diffL (x :: xs) (x :: ys) = diffL xs ys := by
  have h1 : diffL (x :: xs) (x :: ys) = diffL xs (x :: ys) := by
    unfold diffL
    rw [List.filter_cons, if_neg (by simp)]
  rw [h1]
  refine diff_cong fun z hz => ?_
  have := (List.pairwise_cons.mp hx).1 z hz
  have : z ≠ x := by omega
  simp [this]
theorem rising_drop {xs : List Int} (h : Rising xs) (i : Nat) : Rising (xs.drop i) := h.sublist (List.drop_sublist _ _)
theorem drop_cons {xs : List Int} {i : Nat} {z : Int} (e : xs[i]? = some z) : xs.drop i = z :: xs.drop (i + 1) := by
  obtain ⟨h, rfl⟩ := List.getElem?_eq_some_iff.mp e
  exact List.drop_eq_getElem_cons h
theorem next_gt {xs : List Int} {i : Nat} {z u : Int} (h : Rising xs) (e : xs[i]? = some z) (e' : xs[i + 1]? = some u) : z < u := by
  have r := rising_drop h i
  rw [drop_cons e, drop_cons e'] at r
  exact (List.pairwise_cons.mp r).1 u List.mem_cons_self
/-- what is so between the turns -/
structure Inv (xs ys : List Int) (i j : Nat) (ms us : List Int) : Prop where
  m : ms ++ diffL (xs.drop i) (ys.drop j) = diffL xs ys
  u : us ++ diffL (ys.drop j) (xs.drop i) = diffL ys xs
  i : i ≤ xs.length
  j : j ≤ ys.length
/-- what is so where one list is done with -/
structure Ended (xs ys : List Int) (i j : Nat) (ms us : List Int) : Prop where
  m : ms ++ xs.drop i = diffL xs ys
  u : us ++ ys.drop j = diffL ys xs
theorem Inv.fin {xs ys : List Int} {i j : Nat} {ms us : List Int} (v : Inv xs ys i j ms us) (h : xs.length ≤ i ∨ ys.length ≤ j) : Ended xs ys i j ms us := by
  have m := v.m
  have u := v.u
  rcases h with h | h
  · rw [List.drop_of_length_le h] at m u
    rw [diff_nil] at m; rw [diff_of_nil] at u
    exact ⟨by rw [List.drop_of_length_le h]; exact m, u⟩
  · rw [List.drop_of_length_le h] at m u
    rw [diff_of_nil] at m; rw [diff_nil] at u
    exact ⟨m, by rw [List.drop_of_length_le h]; exact u⟩
section
variable {xs ys ms us : List Int} {i j : Nat} {z w : Int}
theorem Inv.lt (v : Inv xs ys i j ms us) (hx : Rising xs) (hy : Rising ys) (ez : xs[i]? = some z) (ew : ys[j]? = some w) (h : z < w) : Inv xs ys (i + 1) j (ms ++ [z]) us := by
  have d := diff_lt (drop_cons ez ▸ rising_drop hx i) (drop_cons ew ▸ rising_drop hy j) h
  have m := v.m
  have u := v.u
  rw [drop_cons ez, drop_cons ew, d.1] at m
  rw [drop_cons ez, drop_cons ew, d.2] at u
  rw [← drop_cons ew] at m u
  exact ⟨by simpa using m, u, (List.getElem?_eq_some_iff.mp ez).1, v.j⟩
theorem Inv.gt (v : Inv xs ys i j ms us) (hx : Rising xs) (hy : Rising ys) (ez : xs[i]? = some z) (ew : ys[j]? = some w) (h : w < z) : Inv xs ys i (j + 1) ms (us ++ [w]) := by
  have d := diff_lt (drop_cons ew ▸ rising_drop hy j) (drop_cons ez ▸ rising_drop hx i) h
  have m := v.m
  have u := v.u
  rw [drop_cons ez, drop_cons ew, d.2] at m
  rw [drop_cons ez, drop_cons ew, d.1] at u
  rw [← drop_cons ez] at m u
  exact ⟨m, by simpa using u, v.i, (List.getElem?_eq_some_iff.mp ew).1⟩
theorem Inv.eq (v : Inv xs ys i j ms us) (hx : Rising xs) (hy : Rising ys) (ez : xs[i]? = some z) (ew : ys[j]? = some z) : Inv xs ys (i + 1) (j + 1) ms us := by
  have d := diff_eq (drop_cons ez ▸ rising_drop hx i) (drop_cons ew ▸ rising_drop hy j)
  have d' := diff_eq (drop_cons ew ▸ rising_drop hy j) (drop_cons ez ▸ rising_drop hx i)
  have m := v.m
  have u := v.u
  rw [drop_cons ez, drop_cons ew, d] at m
  rw [drop_cons ez, drop_cons ew, d'] at u
  exact ⟨m, u, (List.getElem?_eq_some_iff.mp ez).1, (List.getElem?_eq_some_iff.mp ew).1⟩
end
section
variable {G : Gl} {A : Around} {s : Shared} {env : Env} {E : Value → Shared → Prop} {pos : Pos}
theorem look_load {x : Str} {v : Value} {Q : Value → Shared → Prop} (l : Look env s.heap x v) (hk : env.scope.kind = .function) (h : Q v s) : wpAny (model G.prog G.w) A (loadName env x) Q E s := by
  rcases l with ⟨a, m, n, e⟩ | ⟨a, c, e, i⟩
  · exact wpAny_loadName_local hk a n e h
  · rcases a with a | ⟨a, b⟩
    · exact wpAny_loadName_cell hk a e i h
    · exact wpAny_loadName_free hk a e i h b
theorem aug_one {x : Str} {p p' : Pos} {kk : Nat} {k : Nat} {t : Tok} {Q : Flow → Shared → Prop} (hk : env.scope.kind = .function) (l : Look env s.heap x (.int (k : Nat) t)) (c : CanStore env s.heap x)
    (h : ∀ h' tk t', Upd env x (.int ((k + 1 : Nat) : Int) t') s.heap h' → Q .next { s with heap := h', toks := tk }) : wpAny (model G.prog G.w) A (exec (.AugAssign (.Name x p) .Add (.Constant (.int 1) kk p') pos) env) Q E s := by
  refine wpAny_AugAssign_Name (look_load l hk (wpAny_Constant_int (iadd_int ?_)))
  exact st_name hk c fun h' tk u => h h' tk _ u
end
end Mine
namespace Mine
section
variable {G : Gl} {s₀ : Shared} {env : Env} {x y D1 D2 : Addr} {i j : Nat} {ms us : List Int} {h h' : Heap}
theorem SS.setI {t : Tok} {k : Nat} (S : SS G s₀ env x y D1 D2 i j ms us h) (u : Upd env "i" (.int (k : Nat) t) h h') : SS G s₀ env x y D1 D2 k j ms us h' := by
  have c : Chg G.Bs env ["i"] [] h h' := Chg.ofUpd u
  have ap := S.F.ap
  exact ⟨S.F.chg c (fun _ q => nomatch q), c.look ap (by decide) S.ve, c.look ap (by decide) S.va, ⟨t, u.self⟩, S.vj.imp fun _ q => c.look ap (by decide) q, c.look ap (by decide) S.vm, c.look ap (by decide) S.vu,
    S.l1.imp fun _ q => ⟨c.plain q.1 (fun m => nomatch m), q.2⟩, S.l2.imp fun _ q => ⟨c.plain q.1 (fun m => nomatch m), q.2⟩⟩
theorem SS.setJ {t : Tok} {k : Nat} (S : SS G s₀ env x y D1 D2 i j ms us h) (u : Upd env "j" (.int (k : Nat) t) h h') : SS G s₀ env x y D1 D2 i k ms us h' := by
  have c : Chg G.Bs env ["j"] [] h h' := Chg.ofUpd u
  have ap := S.F.ap
  exact ⟨S.F.chg c (fun _ q => nomatch q), c.look ap (by decide) S.ve, c.look ap (by decide) S.va, S.vi.imp fun _ q => c.look ap (by decide) q, ⟨t, u.self⟩, c.look ap (by decide) S.vm, c.look ap (by decide) S.vu,
    S.l1.imp fun _ q => ⟨c.plain q.1 (fun m => nomatch m), q.2⟩, S.l2.imp fun _ q => ⟨c.plain q.1 (fun m => nomatch m), q.2⟩⟩
theorem SS.push1 {vs : List Value} {ms' : List Int} (S : SS G s₀ env x y D1 D2 i j ms us h) (c : Chg G.Bs env [] [D1] h h') (hD : D1 ≠ D2) (n1 : s₀.heap.get? D1 = none) (p : h'.PlainList D1 (List.toArray vs)) (hi : IntsAre vs ms') : SS G s₀ env x y D1 D2 i j ms' us h' := by
  have ap := S.F.ap
  have hz : ∀ n : Str, n ∉ ([] : List Str) := fun _ q => nomatch q
  exact ⟨S.F.chg c (fun y m => by rw [List.mem_singleton.mp m]; exact n1), c.look ap (hz _) S.ve, c.look ap (hz _) S.va, S.vi.imp fun _ q => c.look ap (hz _) q, S.vj.imp fun _ q => c.look ap (hz _) q, c.look ap (hz _) S.vm, c.look ap (hz _) S.vu,
    ⟨vs, p, hi⟩, S.l2.imp fun _ q => ⟨c.plain q.1 (fun m => hD (List.mem_singleton.mp m).symm), q.2⟩⟩
theorem SS.push2 {vs : List Value} {us' : List Int} (S : SS G s₀ env x y D1 D2 i j ms us h) (c : Chg G.Bs env [] [D2] h h') (hD : D1 ≠ D2) (n1 : s₀.heap.get? D2 = none) (p : h'.PlainList D2 (List.toArray vs)) (hi : IntsAre vs us') : SS G s₀ env x y D1 D2 i j ms us' h' := by
  have ap := S.F.ap
  have hz : ∀ n : Str, n ∉ ([] : List Str) := fun _ q => nomatch q
  exact ⟨S.F.chg c (fun y m => by rw [List.mem_singleton.mp m]; exact n1), c.look ap (hz _) S.ve, c.look ap (hz _) S.va, S.vi.imp fun _ q => c.look ap (hz _) q, S.vj.imp fun _ q => c.look ap (hz _) q, c.look ap (hz _) S.vm, c.look ap (hz _) S.vu,
    S.l1.imp fun _ q => ⟨c.plain q.1 (fun m => hD (List.mem_singleton.mp m)), q.2⟩, ⟨vs, p, hi⟩⟩
theorem SS.setE {n : Str} {v : Value} (S : SS G s₀ env x y D1 D2 i j ms us h) (u : Upd env n v h h') (hn : n = "e" ∨ n = "a") : SS G s₀ env x y D1 D2 i j ms us h' := by
  refine S.chg (Chg.ofUpd u) (fun m hm q => ?_) (fun q => nomatch q) (fun q => nomatch q) fun _ q => nomatch q
  rw [List.mem_singleton.mp q] at hm
  rcases hn with rfl | rfl <;> exact absurd hm (by decide)
end
/-- append of an int to a list of one's own -/
theorem app_one {G : Gl} {A : Around} {s : Shared} {env : Env} {E : Value → Shared → Prop} {nm vn : Str} {D : Addr} {vd : List Value} {md : List Int} {z : Int} {t : Tok} {p1 p2 p3 p6 pos : Pos} {rest : List Stmt} {Q : Flow → Shared → Prop}
    (hk : env.scope.kind = .function) (ln : Look env s.heap nm (.ref D)) (lv : Look env s.heap vn (.int z t)) (hd : s.heap.PlainList D (List.toArray vd)) (hdi : IntsAre vd md) (hsz : md.length ≤ 100000)
    (cont : ∀ h' tk vd', h'.PlainList D (List.toArray vd') → IntsAre vd' (md ++ [z]) → Chg G.Bs env [] [D] s.heap h' → wpAny (model G.prog G.w) A (execs rest env) Q E { s with heap := h', toks := tk })
    (hline : (p2.endLine == p6.line) = true := by rfl) (hint : interactive env = false := by rfl)
    (d1 : (nm == ("__debug__" : Str)) = false := by decide) (d2 : (vn == ("__debug__" : Str)) = false := by decide) :
    wpAny (model G.prog G.w) A (execs (.Expr (.Call (.Attribute (.Name nm p1) "append" p2) [.Name vn p3] [] p6) pos :: rest) env) Q E s := by
  refine wpAny_execs_cons (wpAny_Expr ?_ hint (by rfl))
  have hv : Ev G A env s.heap [] (.Name vn p3) (.int z) := ev_name ⟨_, lv, Rp.int _ _⟩ hk d2
  refine meth (evV_name ln hk d1) hd (ar_cons hv ar_nil) slot_list_append PySem.F.type_list_append (fun ws h2 tk2 k2 r => ?_) rfl rfl hline
  obtain ⟨v, vs', rfl, r1, rl⟩ := r.cons_inv
  obtain ⟨t', rfl⟩ := r1.ofInt
  rw [rl.nil_inv]
  have l2 := IntsAre.len hdi
  refine do_append (env := env) (k2.plain hd) (by rw [sizeLine_eq]; simp; omega) fun h3 pl3 ch => ?_
  exact cont h3 tk2 (vd ++ [.int z t']) (by simpa using pl3) (IntsAre.append hdi (.cons z t' .nil)) ((Chg.ofKp k2).trans ch)
end Mine
namespace Mine
theorem IntsAre.of_dInts {X : List Addr} {h : Heap} {v : Value} {ns : List Int} (r : Rp X h v (dInts ns)) : ∃ a vs, v = .ref a ∧ a ∉ X ∧ h.IsList a (List.toArray vs) ∧ IntsAre vs ns := by
  obtain ⟨a, vs, e, hx, hl, rl⟩ := Rp.ofList r
  exact ⟨a, vs, e, hx, hl, RpL.ints rl⟩
/-- how a turn ends -/
def QB (G : Gl) (s₀ : Shared) (env : Env) (x y D1 D2 : Addr) (xs ys : List Int) (n : Nat) (f : Flow) (s' : Shared) : Prop :=
  f = .next ∧ ∃ i' j' ms' us' h' tk', s' = { s₀ with heap := h', toks := tk' } ∧ SS G s₀ env x y D1 D2 i' j' ms' us' h' ∧ Inv xs ys i' j' ms' us' ∧ n < i' + j'
def EB (G : Gl) (s₀ : Shared) (env : Env) (x y D1 D2 : Addr) (xs ys : List Int) (e : Value) (s' : Shared) : Prop :=
  ∃ a i' j' ms' us' h' tk', e = .ref a ∧ s' = { s₀ with heap := h', toks := tk' } ∧ SS G s₀ env x y D1 D2 i' j' ms' us' h' ∧ XO s₀ h' s₀.heap.objs.size a ∧ Ended xs ys i' j' ms' us' ∧ ms'.length ≤ 1000 ∧ us'.length ≤ 1000
theorem mono_at {G : Gl} {A : Around} {s₀ : Shared} {env : Env} {x y D1 D2 : Addr} {i j : Nat} {ms us xs ys : List Int} {h : Heap} {s : Shared} {m : Sem Flow} {Q : Flow → Shared → Prop} {E : Value → Shared → Prop} (S : SS G s₀ env x y D1 D2 i j ms us h)
    (body : wpAny (model G.prog G.w) A m (QB G s₀ env x y D1 D2 xs ys (i + j)) (EB G s₀ env x y D1 D2 xs ys) s) (q : ∀ f s', QB G s₀ env x y D1 D2 xs ys (i + j) f s' → Q f s') (e : ∀ e s', EB G s₀ env x y D1 D2 xs ys e s' → E e s') : wpAny (model G.prog G.w) A m Q E s := wpAny_mono body q e
theorem sld_spec {G : Gl} {A : Around} {h₁ : Heap} {X : List Addr} {k : Nat} (W : Wd (KH G.w) G.Bs) (g : Go G (k + 1) A h₁) (hX : Al X h₁) {xs ys : List Int} {v1 v2 : Value}
    (r1 : Rp X h₁ v1 (dInts xs)) (r2 : Rp X h₁ v2 (dInts ys)) (hx : Rising xs) (hy : Rising ys) (lx : xs.length ≤ 1000) (ly : ys.length ≤ 1000) :
    Does G A h₁ (call (.ref 21) [v1, v2]) (fun h v => Rp X h v (.tuple [dInts (diffL xs ys), dInts (diffL ys xs)])) := by
  obtain ⟨x, vx, rfl, hxX, lx1, ix⟩ := IntsAre.of_dInts r1
  obtain ⟨y, vy, rfl, hyX, ly1, iy⟩ := IntsAre.of_dInts r2
  refine call_def ["expected", "actual"] g W (W.K 21 _ rfl) rfl rfl rfl rfl rfl rfl rfl (by decide) rfl ?_
  intro s₀ h tk k₀ F P g'
  have hA : A.handled = none := g.hd
  obtain ⟨l, hl0, fr0⟩ := g.fr
  have fr : FrF G.Bs s₀.heap l := fr0.keep k₀
  have hb : Kp G.Bs G.Bs s₀.heap := g.base.trans k₀
  have hxs := k₀.list lx1
  have hys := k₀.list ly1
  have ve : Look _ h "expected" (.ref x) := P _ (.head _)
  have va : Look _ h "actual" (.ref y) := P _ (.tail _ (.head _))
  clear P
  have hframes : ∀ env, (A.deeper env).frames = some (env :: l) := fun env => by show A.frames.map _ = _; rw [hl0]; rfl
  -- i = j = 0
  refine wpAny_execs_cons (wpAny_Assign_two (wpAny_Constant_int ?_))
  refine st_assign F.kind (F.canL rfl) fun h2 tk2 u2 => ?_
  have c2 := Chg.ofUpd (Bs := G.Bs) u2
  have F2 := F.chg c2 (fun _ q => nomatch q)
  refine st_assign F.kind (F2.canL rfl) fun h3 tk3 u3 => ?_
  have c3 := Chg.ofUpd (Bs := G.Bs) u3
  have F3 := F2.chg c3 (fun _ q => nomatch q)
  have ap := F.ap
  have ve3 := c3.look ap (by decide) (c2.look ap (by decide) ve)
  have va3 := c3.look ap (by decide) (c2.look ap (by decide) va)
  have vi3 := c3.look ap (by decide) u2.self
  have vj3 := u3.self
  -- missing = []
  refine wpAny_execs_cons (wpAny_Assign_Name (List_ (args_nil (wpAny_newObj_type ?_))))
  refine st_name F.kind ((F3.canL rfl).keep (Kp.push (Bs := G.Bs) _)) fun h4 tk4 u4 => ?_
  have kp4 : Kp G.Bs h3 (h3.push { cls := .type "list", dict := none, data := .seq ([] : List Value).toArray }) := Kp.push _
  have c4 : Chg G.Bs _ ["missing"] [] h3 h4 := (Chg.ofKp kp4).trans (Chg.ofUpd u4)
  have F4 := F3.chg c4 (fun _ q => nomatch q)
  have n1 : s₀.heap.get? h3.objs.size = none := none_of_kp F3.keep (none_ge (Nat.le_refl _))
  have p4 : h4.PlainList h3.objs.size (List.toArray []) := (Chg.ofUpd (Bs := G.Bs) u4).plain ⟨_, Heap.get?_push_size _ rfl⟩ (fun q => nomatch q)
  have vm4 := u4.self
  have ve4 := c4.look ap (by decide) ve3
  have va4 := c4.look ap (by decide) va3
  have vi4 := c4.look ap (by decide) vi3
  have vj4 := c4.look ap (by decide) vj3
  generalize hD1 : h3.objs.size = D1 at n1 p4 vm4
  -- unexpected = []
  refine wpAny_execs_cons (wpAny_Assign_Name (List_ (args_nil (wpAny_newObj_type ?_))))
  refine st_name F.kind ((F4.canL rfl).keep (Kp.push (Bs := G.Bs) _)) fun h5 tk5 u5 => ?_
  have kp5 : Kp G.Bs h4 (h4.push { cls := .type "list", dict := none, data := .seq ([] : List Value).toArray }) := Kp.push _
  have c5 : Chg G.Bs _ ["unexpected"] [] h4 h5 := (Chg.ofKp kp5).trans (Chg.ofUpd u5)
  have F5 := F4.chg c5 (fun _ q => nomatch q)
  have n2 : s₀.heap.get? h4.objs.size = none := none_of_kp F4.keep (none_ge (Nat.le_refl _))
  have p5 : h5.PlainList h4.objs.size (List.toArray []) := (Chg.ofUpd (Bs := G.Bs) u5).plain ⟨_, Heap.get?_push_size _ rfl⟩ (fun q => nomatch q)
  have hD : D1 ≠ h4.objs.size := fun q => by obtain ⟨n, e⟩ := p4; rw [q] at e; exact absurd (Heap.lt_size e) (Nat.lt_irrefl _)
  have S5 : SS G s₀ _ x y D1 h4.objs.size 0 0 [] [] h5 := ⟨F5, c5.look ap (by decide) ve4, c5.look ap (by decide) va4, ⟨_, c5.look ap (by decide) vi4⟩, ⟨_, c5.look ap (by decide) vj4⟩, c5.look ap (by decide) vm4, u5.self, ⟨[], c5.plain p4 (fun q => nomatch q), .nil⟩, ⟨[], p5, .nil⟩⟩
  generalize hD2 : h4.objs.size = D2 at n2 hD S5
  have V0 : Inv xs ys 0 0 [] [] := ⟨rfl, rfl, Nat.zero_le _, Nat.zero_le _⟩
  -- while True
  refine wpAny_execs_cons (wpAny_While (codeAny_whileLoop (fun n s' => ∃ i j ms us h tk, s' = { s₀ with heap := h, toks := tk } ∧ SS G s₀ _ x y D1 D2 i j ms us h ∧ Inv xs ys i j ms us ∧ n = xs.length + ys.length - (i + j)) ?_ _ ⟨0, 0, [], [], _, _, rfl, S5, V0, rfl⟩))
  rintro n s' ⟨i, j, ms, us, h6, tk6, rfl, S, V, rfl⟩
  refine isTrue_plain (PyProof.Rows.Constant_bool (wpAny_truthy_bool ?_))
  rw [if_pos rfl]
  refine wpAny_execs_cons (wpAny_Try_except ?_)
  have lenm : ∀ {i j ms us}, Inv xs ys i j ms us → ms.length ≤ 1000 ∧ us.length ≤ 1000 := fun {i j ms us} v => by
    have e1 := congrArg List.length v.m
    have e2 := congrArg List.length v.u
    rw [List.length_append] at e1 e2
    have l1 : (diffL xs ys).length ≤ xs.length := List.length_filter_le _ _
    have l2 : (diffL ys xs).length ≤ ys.length := List.length_filter_le _ _
    omega
  refine mono_at (xs := xs) (ys := ys) S ?body (fun f s' hq => ?q) (fun e s' he => ?e)
  case q =>
    obtain ⟨rfl, i', j', ms', us', h', tk', rfl, S', V', lt⟩ := hq
    refine wpAny_execs_nil (wpAny_execs_nil ⟨xs.length + ys.length - (i' + j'), ?_, i', j', ms', us', h', tk', rfl, S', V', rfl⟩)
    have := V'.i; have := V'.j; omega
  case e =>
    obtain ⟨a, i', j', ms', us', h', tk', rfl, rfl, S', X', D', b1, b2⟩ := he
    refine handler W S' X' hD rfl (hframes _) fr hb hxs hys ix iy n1 n2 (by omega) (by omega) (fun h'' tk'' S'' => ?_)
    rw [D'.m, D'.u] at S''
    obtain ⟨w1, q1, j1⟩ := S''.l1
    obtain ⟨w2, q2, j2⟩ := S''.l2
    have X1 : D1 ∉ X := (hX.keep k₀).outOf n1
    have X2 : D2 ∉ X := (hX.keep k₀).outOf n2
    have V1 : Var X _ h'' "missing" (dInts (diffL xs ys)) := ⟨_, S''.vm, Rp.list q1.isList X1 (IntsAre.rpL j1)⟩
    have V2 : Var X _ h'' "unexpected" (dInts (diffL ys xs)) := ⟨_, S''.vu, Rp.list q2.isList X2 (IntsAre.rpL j2)⟩
    exact ret_ev S''.F (ev_tuple (ar_cons (ev_name V1 rfl) (ar_cons (ev_name V2 rfl) ar_nil)) (show 2 ≤ sizeLine by decide))
  case body =>
    have hAd : ∀ env, (A.deeper env).handled = none := fun _ => hA
    obtain ⟨ti, vi⟩ := S.vi
    obtain ⟨tj, vj⟩ := S.vj
    have bi := V.i
    have bj := V.j
    have bl := lenm V
    refine wpAny_execs_cons (wpAny_Assign_Name (item_or S.F.kind S.ve vi (S.F.keep.list hxs) ix (.inl (hAd _)) (by omega) (fun z tz ez => ?_) (fun le h7 tk7 e ctx kp ne xa hc => ?_)))
    rotate_left
    · exact ⟨e, i, j, ms, us, h7, tk7, rfl, rfl, S.kp kp, ⟨none_of_kp S.F.keep ne, .inl ⟨ctx, xa⟩⟩, V.fin (.inl le), bl.1, bl.2⟩
    refine st_name S.F.kind (S.F.canL rfl) fun h7 tk7 u7 => ?_
    have S7 := S.setE u7 (.inl rfl)
    have ve7 := u7.self
    obtain ⟨tj7, vj7⟩ := S7.vj
    refine wpAny_execs_cons (wpAny_Assign_Name (item_or S.F.kind S7.va vj7 (S7.F.keep.list hys) iy (.inl (hAd _)) (by omega) (fun w tw ew => ?_) (fun le h8 tk8 e ctx kp ne xa hc => ?_)))
    rotate_left
    · exact ⟨e, i, j, ms, us, h8, tk8, rfl, rfl, S7.kp kp, ⟨none_of_kp S7.F.keep ne, .inl ⟨ctx, xa⟩⟩, V.fin (.inr le), bl.1, bl.2⟩
    refine st_name S.F.kind (S7.F.canL rfl) fun h8 tk8 u8 => ?_
    have S8 := S7.setE u8 (.inr rfl)
    have va8 := u8.self
    have ve8 := (Chg.ofUpd (Bs := G.Bs) u8).look ap (by decide) ve7
    refine wpAny_execs_cons (wpAny_If ((tr_lt (X := []) (ev_name ⟨_, ve8, Rp.int _ _⟩ S8.F.kind) (ev_name ⟨_, va8, Rp.int _ _⟩ S8.F.kind)) _ _ _ (Kp.refl _) fun b h9 tk9 k9 eb => ?_))
    subst eb
    have S9 := S8.kp k9
    have va9 := va8.keep k9
    have ve9 := ve8.keep k9
    by_cases zw : z < w
    · rw [decide_eq_true zw]
      obtain ⟨vd, pd, idd⟩ := S9.l1
      refine app_one S9.F.kind S9.vm ve9 pd idd (by omega) fun h10 tk10 vd' pd' id' ch' => ?_
      have S10 := S9.push1 ch' hD n1 pd' id'
      have ve10 := ch'.look ap (by decide) ve9
      obtain ⟨ti10, vi10⟩ := S10.vi
      refine wpAny_execs_cons (aug_one S10.F.kind vi10 (S10.F.canL rfl) fun h11 tk11 t11 u11 => ?_)
      have S11 := S10.setI u11
      have ve11 := (Chg.ofUpd (Bs := G.Bs) u11).look ap (by decide) ve10
      have V' := V.lt hx hy ez ew zw
      have bl' := lenm V'
      refine wpAny_execs_cons (inner_while S11.F.kind rfl ⟨l, hframes _, S11.F.frames fr hb⟩ S11.ve u11.self ve11 (S11.F.keep.list hxs) ix (.inl (hAd _)) (by omega) (fun u eu q => ?_) (fun _ => ?_) (fun le h12 tk12 e T ctx kp ne nT hT xa ta hc => ?_))
      · have := next_gt hx ez eu; omega
      · exact wpAny_execs_nil (wpAny_execs_nil ⟨rfl, _, _, _, _, _, _, rfl, S11, V', by omega⟩)
      · exact ⟨e, _, _, _, _, h12, tk12, rfl, rfl, S11.kp kp, ⟨none_of_kp S11.F.keep ne, .inr ⟨T, ctx, none_of_kp S11.F.keep nT, hT, xa, ta⟩⟩, V'.fin (.inl le), bl'.1, bl'.2⟩
    · rw [decide_eq_false zw]
      refine wpAny_execs_cons (wpAny_If ((tr_gt (X := []) (ev_name ⟨_, ve9, Rp.int _ _⟩ S8.F.kind) (ev_name ⟨_, va9, Rp.int _ _⟩ S8.F.kind)) _ _ _ (Kp.refl _) fun b h10 tk10 k10 eb => ?_))
      subst eb
      have S10 := S9.kp k10
      have va10 := va9.keep k10
      have ve10 := ve9.keep k10
      by_cases wz : w < z
      · rw [decide_eq_true wz]
        obtain ⟨vd, pd, idd⟩ := S10.l2
        refine app_one S10.F.kind S10.vu va10 pd idd (by omega) fun h11 tk11 vd' pd' id' ch' => ?_
        have S11 := S10.push2 ch' hD n2 pd' id'
        have va11 := ch'.look ap (by decide) va10
        obtain ⟨ti11, vj11⟩ := S11.vj
        refine wpAny_execs_cons (aug_one S11.F.kind vj11 (S11.F.canL rfl) fun h12 tk12 t12 u12 => ?_)
        have S12 := S11.setJ u12
        have va12 := (Chg.ofUpd (Bs := G.Bs) u12).look ap (by decide) va11
        have V' := V.gt hx hy ez ew wz
        have bl' := lenm V'
        refine wpAny_execs_cons (inner_while S12.F.kind rfl ⟨l, hframes _, S12.F.frames fr hb⟩ S12.va u12.self va12 (S12.F.keep.list hys) iy (.inl (hAd _)) (by omega) (fun u eu q => ?_) (fun _ => ?_) (fun le h13 tk13 e T ctx kp ne nT hT xa ta hc => ?_))
        · have := next_gt hy ew eu; omega
        · exact wpAny_execs_nil (wpAny_execs_nil (wpAny_execs_nil ⟨rfl, _, _, _, _, _, _, rfl, S12, V', by omega⟩))
        · exact ⟨e, _, _, _, _, h13, tk13, rfl, rfl, S12.kp kp, ⟨none_of_kp S12.F.keep ne, .inr ⟨T, ctx, none_of_kp S12.F.keep nT, hT, xa, ta⟩⟩, V'.fin (.inr le), bl'.1, bl'.2⟩
      · rw [decide_eq_false wz]
        have zw' : z = w := by omega
        subst zw'
        have V' := V.eq hx hy ez ew
        have bl' := lenm V'
        obtain ⟨ti10, vi10⟩ := S10.vi
        refine wpAny_execs_cons (aug_one S10.F.kind vi10 (S10.F.canL rfl) fun h11 tk11 t11 u11 => ?_)
        have S11 := S10.setI u11
        have ve11 := (Chg.ofUpd (Bs := G.Bs) u11).look ap (by decide) ve10
        have va11 := (Chg.ofUpd (Bs := G.Bs) u11).look ap (by decide) va10
        obtain ⟨tj11, vj11⟩ := S11.vj
        refine wpAny_execs_cons (wpAny_Try_finally ?_)
        refine wpAny_execs_cons (inner_while S11.F.kind rfl ⟨l, hframes _, S11.F.frames fr hb⟩ S11.ve u11.self ve11 (S11.F.keep.list hxs) ix (.inl (hAd _)) (by omega) (fun u eu q => ?_) (fun lti => ?_) (fun le h12 tk12 e T ctx kp ne nT hT xa ta hc => ?_))
        · have := next_gt hx ez eu; omega
        · refine wpAny_execs_nil (wpAny_execs_nil ?_)
          refine wpAny_execs_cons (aug_one S11.F.kind vj11 (S11.F.canL rfl) fun h12 tk12 t12 u12 => ?_)
          have S12 := S11.setJ u12
          have va12 := (Chg.ofUpd (Bs := G.Bs) u12).look ap (by decide) va11
          refine wpAny_execs_cons (inner_while S12.F.kind rfl ⟨l, hframes _, S12.F.frames fr hb⟩ S12.va u12.self va12 (S12.F.keep.list hys) iy (.inl (hAd _)) (by omega) (fun u eu q => ?_) (fun _ => ?_) (fun le h13 tk13 e T ctx kp ne nT hT xa ta hc => ?_))
          · have := next_gt hy ew eu; omega
          · exact wpAny_execs_nil (wpAny_execs_nil (wpAny_execs_nil (wpAny_execs_nil ⟨rfl, _, _, _, _, _, _, rfl, S12, V', by omega⟩)))
          · have ne' := none_of_kp S12.F.keep ne
            have nT' := none_of_kp S12.F.keep nT
            have S13 := S12.kp kp
            refine note_again rfl xa ta ?_
            refine came_back xa ta hT rfl fun h14 kb14 x14 t14 => ?_
            exact ⟨e, _, _, _, _, h14, tk13, rfl, rfl, S13.T ta t14 kb14 nT', ⟨ne', .inr ⟨T, ctx, nT', hT, x14, t14⟩⟩, V'.fin (.inr le), bl'.1, bl'.2⟩
        · have ne' := none_of_kp S11.F.keep ne
          have nT' := none_of_kp S11.F.keep nT
          have hc' := hc (hAd _)
          subst hc'
          have S12 := S11.kp kp
          have va12 := va11.keep kp
          refine note_again rfl xa ta ⟨ref_ne_byPass _, note_again rfl xa ta ?_⟩
          refine set_flight xa ta hT fun h13 kb13 x13 t13 => ?_
          have S13 := S12.T ta t13 kb13 nT'
          have va13 := (ta.chg (env := _) t13 kb13).look ap (by decide) va12
          obtain ⟨tj13, vj13⟩ := S13.vj
          refine wpAny_execs_cons (aug_one S13.F.kind vj13 (S13.F.canL rfl) fun h14 tk14 t14 u14 => ?_)
          have S14 := S13.setJ u14
          have c14 := Chg.ofUpd (Bs := G.Bs) u14
          have va14 := c14.look ap (by decide) va13
          have x14 := x13.over S13.F c14 (fun q => nomatch q)
          have t14' := t13.over S13.F c14 (fun q => nomatch q)
          refine wpAny_execs_cons (inner_while S14.F.kind rfl ⟨l, hframes _, S14.F.frames fr hb⟩ S14.va u14.self va14 (S14.F.keep.list hys) iy (.inr ⟨e, _, rfl, x14⟩) (by omega) (fun u eu q => ?_) (fun _ => ?_) (fun le' h15 tk15 e2 T2 ctx2 kp2 ne2 nT2 hT2 xa2 ta2 hc2 => ?_))
          · have := next_gt hy ew eu; omega
          · refine wpAny_execs_nil ?_
            unfold PySem.passOn
            obtain ⟨o, t, q, c, d⟩ := id x14
            refine wpAny_bind (wpAny_field q d (x := .ref T) rfl ?_)
            rw [if_neg (by simp)]
            refine wpAny_bind (set_flight x14 t14' hT fun h15 kb15 x15 t15 => wpAny_throw ?_)
            exact ⟨e, _, _, _, _, h15, _, rfl, rfl, S14.T t14' t15 kb15 nT', ⟨ne', .inr ⟨T, _, nT', hT, x15, t15⟩⟩, V'.fin (.inl le), bl'.1, bl'.2⟩
          · have ne2' := none_of_kp S14.F.keep ne2
            have nT2' := none_of_kp S14.F.keep nT2
            have S15 := S14.kp kp2
            refine note_again rfl xa2 ta2 ?_
            refine came_back xa2 ta2 hT2 rfl fun h16 kb16 x16 t16 => ?_
            exact ⟨e2, _, _, _, _, h16, tk15, rfl, rfl, S15.T ta2 t16 kb16 nT2', ⟨ne2', .inr ⟨T2, ctx2, nT2', hT2, x16, t16⟩⟩, V'.fin (.inl le), bl'.1, bl'.2⟩
end Mine
namespace Mine
section
variable {G : Gl} {A : Around} {s₀ : Shared} {env : Env} {h : Heap} {X : List Addr} {tk : Nat} {rest : List Stmt} {Q : Flow → Shared → Prop} {E : Value → Shared → Prop} {pos : Pos}
theorem st_unpack {x y : Str} {px py p : Pos} {kk : Nat} {e : Expr} {d1 d2 : PyData} (F : Fn G s₀ env h) (hA : A.handled = none) (ev : Ev G A env h X e (.tuple [d1, d2])) (hxy : x ≠ y) (hx : ∃ a, slotOf env x = some a) (hy : ∃ a, slotOf env y = some a)
    (cont : ∀ h' tk', Chg G.Bs env [x, y] [] h h' → Fn G s₀ env h' → Var X env h' x d1 → Var X env h' y d2 → wpAny (model G.prog G.w) A (execs rest env) Q E { s₀ with heap := h', toks := tk' })
    (hs : swapsWithSole [.Tuple [.Name x px, .Name y py] kk p] e pos.line env = pure false := by rfl) (hw : swappedStores [.Tuple [.Name x px, .Name y py] kk p] e env = pure none := by rfl) :
    wpAny (model G.prog G.w) A (execs (.Assign [.Tuple [.Name x px, .Name y py] kk p] e pos :: rest) env) Q E { s₀ with heap := h, toks := tk } := by
  refine wpAny_execs_cons (wpAny_Assign_stores (ev _ _ E (Kp.refl _) fun v h1 tk1 k1 r1 => ?_) hs hw)
  have F1 := F.kp k1
  show wpAny (model G.prog G.w) A (assign (.Tuple [.Name x px, .Name y py] kk p) env v) _ _ _
  refine asg (X := X) (d := .tuple [d1, d2]) hA F.kind (.inl F.ap) (fun z hz => ?_) hxy r1 fun h2 tk2 ch tv => ?_
  · rcases List.mem_cons.mp hz with rfl | hz
    · obtain ⟨a, ha⟩ := hx; exact F1.can _ a ha
    · obtain ⟨a, ha⟩ := hy; rw [List.mem_singleton.mp hz]; exact F1.can _ a ha
  · have c2 : Chg G.Bs env [x, y] [] h h2 := ((Chg.ofKp k1).trans ch)
    exact cont h2 tk2 c2 (F.chg c2 fun _ q => nomatch q) tv.1 tv.2
theorem st_while {test : Expr} {body : List Stmt} (F : Fn G s₀ env h) (J : Nat → Heap → Prop) (n : Nat) (J0 : J n h)
    (turn : ∀ n hc (E' : Value → Shared → Prop), J n hc → Fn G s₀ env hc → ∃ b, Tr G A env hc test b ∧
      (b = true → ∀ h' tk', Kp G.Bs hc h' → Fn G s₀ env h' → wpAny (model G.prog G.w) A (execs body env) (fun f s' => match f with
        | .next | .cont => ∃ m h'' tk'', m < n ∧ s' = { s₀ with heap := h'', toks := tk'' } ∧ J m h'' ∧ Fn G s₀ env h''
        | .ret v => Q (.ret v) s'
        | .brk => False) E' { s₀ with heap := h', toks := tk' }) ∧
      (b = false → ∀ h' tk', Kp G.Bs hc h' → Fn G s₀ env h' → wpAny (model G.prog G.w) A (execs rest env) Q E { s₀ with heap := h', toks := tk' })) :
    wpAny (model G.prog G.w) A (execs (.While test body [] pos :: rest) env) Q E { s₀ with heap := h, toks := tk } := by
  refine wpAny_execs_cons (wpAny_While (codeAny_whileLoop (fun n s' => ∃ hc t, s' = { s₀ with heap := hc, toks := t } ∧ J n hc ∧ Fn G s₀ env hc) ?_ n ⟨h, tk, rfl, J0, F⟩))
  rintro n s' ⟨hc, t, rfl, hJ, Fc⟩
  obtain ⟨b, ht, h1, h0⟩ := turn n hc (notedBy (model G.prog G.w) A env fun e s' => cameBackBy (model G.prog G.w) A env E e s') hJ Fc
  refine ht _ _ _ (Kp.refl _) fun c h' tk' k e => ?_
  subst e
  cases c with
  | true =>
    refine wpAny_mono (h1 rfl h' tk' k (Fc.kp k)) (fun f s3 hf => ?_) fun _ _ q => q
    cases f with
    | next => obtain ⟨m, h'', tk'', lt, e, j, f⟩ := hf; exact ⟨m, lt, h'', tk'', e, j, f⟩
    | cont => obtain ⟨m, h'', tk'', lt, e, j, f⟩ := hf; exact ⟨m, lt, h'', tk'', e, j, f⟩
    | brk => exact hf.elim
    | ret v => exact hf
  | false => exact wpAny_execs_nil (h0 rfl h' tk' k (Fc.kp k))
end
section
variable {G : Gl} {A : Around} {env : Env} {K : Frag} {h₁ h₂ : Heap} {X : List Addr} {l r e : Expr} {pos p : Pos} {a b : Int} {ds es : List PyData} {d1 d2 : PyData}
theorem does_ne {u v : Value} (ru : Rp X h₁ u d1) (rv : Rp X h₁ v d2) (hu : A.units + min d1.depth d2.depth < cLine) : Does G A h₁ (compareOp .NotEq u v) (fun _ x => x = .bool (!d1.eqv d2)) := fun s Q E hk hQ => by
  obtain ⟨c1, as1, r1, _⟩ := ru.keep hk
  obtain ⟨c2, as2, r2, _⟩ := rv.keep hk
  exact SeqAt.compareNe_reads r1 r2 c1 c2 hu (hQ _ s.heap s.toks (Kp.refl _) rfl)
theorem tr_ne (hl : Ev G A env h₁ X l d1) (hr : Ev G A env h₁ X r d2) (hu : A.units + min d1.depth d2.depth < cLine) : Tr G A env h₁ (.Compare l [.NotEq] [r] pos) (!d1.eqv d2) :=
  tr_cmp hl hr (fun u v h k ru rv => does_ne ru rv hu) (marks_off _ r (by decide))
theorem ev_addL (hX : Al X h₁) (hl : Ev G A env h₁ X l (.list ds)) (hr : Ev G A env h₁ X r (.list es)) (hsz : ds.length + es.length ≤ sizeLine) : Ev G A env h₁ X (.BinOp l .Add r pos) (.list (ds ++ es)) :=
  ev_bin hl hr fun u v h k ru rv s Q E hk hQ => by
    obtain ⟨x, vs, rfl, hx, ix, rx⟩ := (ru.keep hk).ofList
    obtain ⟨y, ws, rfl, hy, iy, ry⟩ := (rv.keep hk).ofList
    obtain ⟨⟨cls, dd, data, sl⟩, ho, hc, n, hd⟩ := id ix
    obtain ⟨⟨cls2, dd2, data2, sl2⟩, ho2, hc2, n2, hd2⟩ := id iy
    simp only at hc hd hc2 hd2
    subst hc hd hc2 hd2
    refine concat_meets ⟨_, ho, rfl⟩ ⟨_, ho2, rfl⟩ noFill_list_add seq_list_add PySem.F.slot_list_add PySem.F.entry_list_add (PySem.F.args_list_add_2 _ _) (list_addW x y vs.toArray ws.toArray n n2 dd dd2 sl sl2 (by simpa [rx.length, ry.length] using hsz)) ⟨ho, ho2, ?_⟩
    rw [show vs.toArray ++ ws.toArray = (vs ++ ws).toArray by simp]
    exact hQ _ _ s.toks (Kp.push _) (Rp.list isList_new ((hX.keep (k.trans hk)).out) ((rx.append ry).keep (Kp.push (Bs := G.Bs) _)))
theorem ev_addT (hl : Ev G A env h₁ X l (.tuple ds)) (hr : Ev G A env h₁ X r (.tuple es)) (hsz : ds.length + es.length ≤ sizeLine) : Ev G A env h₁ X (.BinOp l .Add r pos) (.tuple (ds ++ es)) :=
  ev_bin hl hr fun u v h k ru rv s Q E hk hQ => by
    obtain ⟨x, vs, rfl, ix, rx⟩ := (ru.keep hk).ofTuple
    obtain ⟨y, ws, rfl, iy, ry⟩ := (rv.keep hk).ofTuple
    have rx' := ru.keep hk
    have ry' := rv.keep hk
    obtain ⟨⟨cls, dd, data, sl⟩, ho, hc, n, hd⟩ := id ix
    obtain ⟨⟨cls2, dd2, data2, sl2⟩, ho2, hc2, n2, hd2⟩ := id iy
    simp only at hc hd hc2 hd2
    subst hc hd hc2 hd2
    by_cases hv : vs = []
    · refine concat_meets ⟨_, ho, rfl⟩ ⟨_, ho2, rfl⟩ noFill_tuple_add seq_tuple_add PySem.F.slot_tuple_add PySem.F.entry_tuple_add (PySem.F.args_tuple_add_2 _ _) (tuple_addW0 x y vs.toArray ws.toArray n n2 dd dd2 sl sl2 (by simp [hv])) ⟨ho, ho2, ?_⟩
      have : ds = [] := List.length_eq_zero_iff.mp (by rw [← rx.length, hv]; rfl)
      subst this
      exact hQ _ _ s.toks (Kp.refl _) ry'
    · by_cases hw : ws = []
      · refine concat_meets ⟨_, ho, rfl⟩ ⟨_, ho2, rfl⟩ noFill_tuple_add seq_tuple_add PySem.F.slot_tuple_add PySem.F.entry_tuple_add (PySem.F.args_tuple_add_2 _ _) (tuple_addW1 x y vs.toArray ws.toArray n n2 dd dd2 sl sl2 (by simpa using hv) (by simp [hw])) ⟨ho, ho2, ?_⟩
        have : es = [] := List.length_eq_zero_iff.mp (by rw [← ry.length, hw]; rfl)
        subst this
        rw [List.append_nil] at hQ
        exact hQ _ _ s.toks (Kp.refl _) rx'
      · refine concat_meets ⟨_, ho, rfl⟩ ⟨_, ho2, rfl⟩ noFill_tuple_add seq_tuple_add PySem.F.slot_tuple_add PySem.F.entry_tuple_add (PySem.F.args_tuple_add_2 _ _) (tuple_addW2 x y vs.toArray ws.toArray n n2 dd dd2 sl sl2 (by simpa using hv) (by simpa using hw) (by simpa [rx.length, ry.length] using hsz)) ⟨ho, ho2, ?_⟩
        rw [show vs.toArray ++ ws.toArray = (vs ++ ws).toArray by simp]
        exact hQ _ _ s.toks (Kp.push _) (Rp.tuple isTup_new ((rx.append ry).keep (Kp.push (Bs := G.Bs) _)))
/-! builtin functions -/
def RpSorted (X : List Addr) (h : Heap) (v : Value) (ns : List Int) : Prop := ∃ ns', ns'.Perm ns ∧ ns'.Pairwise (· ≤ ·) ∧ Rp X h v (dInts ns')
theorem perm_sorted {xs ys : List Int} (p : xs.Perm ys) (hx : xs.Pairwise (· ≤ ·)) (hy : ys.Pairwise (· ≤ ·)) : xs = ys := p.eq_of_pairwise (fun a b _ _ h1 h2 => Int.le_antisymm h1 h2) hx hy
theorem rising_le {xs : List Int} (h : Rising xs) : xs.Pairwise (· ≤ ·) := h.imp fun {a b} q => Int.le_of_lt q
theorem does_sorted {v : Value} {ns : List Int} (hX : Al X h₁) (r : Rp X h₁ v (dInts ns)) (h64 : ns.length < 64) {ms : List Int} (hp : ms.Perm ns) (hr : Rising ms) : Does G A h₁ (call (.builtin "sorted") [v]) (fun h x => Rp X h x (dInts ms)) := fun s Q E k hQ => by
  obtain ⟨a, vs, rfl, hx, il, ri⟩ := IntsAre.of_dInts (r.keep k)
  refine sorted_ints il ri (by rw [IntsAre.len ri]; exact h64) fun out ns' a1 a2 a3 => ?_
  obtain ⟨e, he⟩ := sortedAll_at s.heap vs out
  have kp : Kp G.Bs s.heap (sortedAll s.heap vs out) := Kp.of fun _ _ => sortedAll_old
  have nn : s.heap.get? (s.heap.objs.size + 1) = none := none_ge (Nat.le_succ _)
  have : ns' = ms := perm_sorted (a2.trans hp.symm) a3 (rising_le hr)
  subst this
  exact hQ _ _ s.toks kp (Rp.list ⟨_, he, rfl, e, by simp [seqObj]⟩ ((hX.keep k).outOf nn) (IntsAre.rpL a1))
theorem does_len {v : Value} (r : Rp X h₁ v (.list ds)) (hn : ds.length < 2 ^ 61) : Does G A h₁ (call (.builtin "len") [v]) (fun h x => Rp X h x (.int (ds.length : Nat))) := fun s Q E k hQ => by
  obtain ⟨a, vs, rfl, hx, il, rl⟩ := (r.keep k).ofList
  refine len_list il (by rw [List.size_toArray, rl.length]; omega) ?_
  rw [List.size_toArray, rl.length]
  exact hQ _ s.heap _ (Kp.refl _) (Rp.int _ _)
theorem ev_len (W : Wd K G.Bs) (hb : Kp G.Bs G.Bs h₁) (eg : nsIn K mainGlobals "len" = some none) (he : Ev G A env h₁ X e (.list ds)) (hn : ds.length < 2 ^ 61)
    (hx : env.kindOf "len" = some .globalImplicit := by rfl) (hg : env.globals = mainGlobals := by rfl) (hbu : env.builtins = builtinsNs := by rfl) (hk : env.scope.kind = .function := by rfl)
    (hs : starEach [e] env = (false, eval e env) :: starEach [] env := by rfl) : Ev G A env h₁ X (.Call (.Name "len" p) [e] [] pos) (.int (ds.length : Nat)) :=
  ev_callB (ev_built W hb eg boot_len hg hbu hk hx) (ar_cons he ar_nil hs) (fun vs h k r => by
    obtain ⟨v, vs', rfl, r1, rl⟩ := r.cons_inv
    rw [rl.nil_inv]
    exact does_len r1 hn) hs
theorem ev_sorted (W : Wd K G.Bs) (hb : Kp G.Bs G.Bs h₁) (eg : nsIn K mainGlobals "sorted" = some none) (hX : Al X h₁) {ns ms : List Int} (he : Ev G A env h₁ X e (dInts ns)) (h64 : ns.length < 64) (hp : ms.Perm ns) (hr : Rising ms)
    (hx : env.kindOf "sorted" = some .globalImplicit := by rfl) (hg : env.globals = mainGlobals := by rfl) (hbu : env.builtins = builtinsNs := by rfl) (hk : env.scope.kind = .function := by rfl)
    (hs : starEach [e] env = (false, eval e env) :: starEach [] env := by rfl) : Ev G A env h₁ X (.Call (.Name "sorted" p) [e] [] pos) (dInts ms) :=
  ev_callB (ev_built W hb eg boot_sorted hg hbu hk hx) (ar_cons he ar_nil hs) (fun vs h k r => by
    obtain ⟨v, vs', rfl, r1, rl⟩ := r.cons_inv
    rw [rl.nil_inv]
    exact does_sorted (hX.keep k) r1 h64 hp hr) hs
theorem does_sum {v : Value} {ns : List Int} (hA : A.handled = none) (r : Rp X h₁ v (dInts ns)) : Does G A h₁ (call (.builtin "sum") [v]) (fun h x => Rp X h x (.int ns.sum)) := fun s Q E k hQ => by
  obtain ⟨a, vs, rfl, hx, hl, hi⟩ := IntsAre.of_dInts (r.keep k)
  obtain ⟨xs, hx⟩ := hi.allInts.items
  have hl' : s.heap.IsList a (intItems xs) := hx ▸ hl
  refine sum_intListG hA hl' fun h' tk t' hk => ?_
  have e1 : ns = xs.toList.map (·.1) := by
    rw [← nums_intItems, ← hx]
    exact (show numsOf vs.toArray.toList = ns from hi.numsOf).symm
  have e2 : preSum (numAt xs) xs.size = ns.sum := by
    rw [preSum_eq, List.take_of_length_le (by simp), e1]
  rw [e2]
  exact hQ _ h' tk (Kp.of hk) (Rp.int _ _)
theorem ev_sum (W : Wd K G.Bs) (hA : A.handled = none) (hb : Kp G.Bs G.Bs h₁) (eg : nsIn K mainGlobals "sum" = some none) {ns : List Int} (he : Ev G A env h₁ X e (dInts ns))
    (hx : env.kindOf "sum" = some .globalImplicit := by rfl) (hg : env.globals = mainGlobals := by rfl) (hbu : env.builtins = builtinsNs := by rfl) (hk : env.scope.kind = .function := by rfl)
    (hs : starEach [e] env = (false, eval e env) :: starEach [] env := by rfl) : Ev G A env h₁ X (.Call (.Name "sum" p) [e] [] pos) (.int ns.sum) :=
  ev_callB (ev_built W hb eg boot_sum hg hbu hk hx) (ar_cons he ar_nil hs) (fun vs h k r => by
    obtain ⟨v, vs', rfl, r1, rl⟩ := r.cons_inv
    rw [rl.nil_inv]
    exact does_sum hA r1) hs
end
end Mine
namespace Mine
theorem g_sld (w : World) : nsIn (KH w) mainGlobals "sorted_list_difference" = some (some (.ref 21)) := by rfl
theorem g_apart (w : World) : nsIn (KH w) mainGlobals "_law_apart" = some (some (.ref 56)) := by rfl
theorem g_isinstance (w : World) : nsIn (KH w) mainGlobals "isinstance" = some none := by rfl
theorem g_bool (w : World) : nsIn (KH w) mainGlobals "bool" = some none := by rfl
theorem g_int (w : World) : nsIn (KH w) mainGlobals "int" = some none := by rfl
def apartL (xs ys : List Int) : List Int := diffL xs ys ++ diffL ys xs
theorem RpL.two {X : List Addr} {h : Heap} {vs : List Value} {d1 d2 : PyData} (r : RpL X h vs [d1, d2]) : ∃ u v, vs = [u, v] ∧ Rp X h u d1 ∧ Rp X h v d2 := by
  obtain ⟨u, vs', rfl, r1, rl⟩ := r.cons_inv
  obtain ⟨v, vs'', rfl, r2, rl⟩ := rl.cons_inv
  rw [rl.nil_inv]
  exact ⟨u, v, rfl, r1, r2⟩
theorem g_places (w : World) : nsIn (KH w) mainGlobals "_law_places" = some (some (.ref 66)) := by rfl
theorem ev_addI {G : Gl} {A : Around} {env : Env} {h₁ : Heap} {X : List Addr} {l r : Expr} {pos : Pos} {xs ys : List Int} (hX : Al X h₁) (hl : Ev G A env h₁ X l (dInts xs)) (hr : Ev G A env h₁ X r (dInts ys)) (hsz : xs.length + ys.length ≤ sizeLine) : Ev G A env h₁ X (.BinOp l .Add r pos) (dInts (xs ++ ys)) := by
  unfold dInts
  rw [List.map_append]
  exact ev_addL hX hl hr (by simpa using hsz)
section
variable {G : Gl} {A : Around} {h₁ : Heap} {X : List Addr} {k : Nat}
theorem apart_spec (W : Wd (KH G.w) G.Bs) (g : Go G (k + 2) A h₁) (hX : Al X h₁) {xs ys : List Int} {v1 v2 : Value}
    (r1 : Rp X h₁ v1 (dInts xs)) (r2 : Rp X h₁ v2 (dInts ys)) (hx : Rising xs) (hy : Rising ys) (lx : xs.length ≤ 1000) (ly : ys.length ≤ 1000) :
    Does G A h₁ (call (.ref 56) [v1, v2]) (fun h v => Rp X h v (dInts (apartL xs ys))) := by
  refine call_def ["one", "other"] g W (W.K 56 _ rfl) rfl rfl rfl rfl rfl rfl rfl (by decide) rfl ?_
  intro s₀ h tk k₀ F P g'
  have kh := k₀.trans F.keep
  have V1 : Var X _ h "one" (dInts xs) := ⟨v1, P _ (.head _), r1.keep kh⟩
  have V2 : Var X _ h "other" (dInts ys) := ⟨v2, P _ (.tail _ (.head _)), r2.keep kh⟩
  refine st_unpack (X := X) (d1 := dInts (diffL xs ys)) (d2 := dInts (diffL ys xs)) F g'.hd (ev_call (ev_glob W g'.base (g_sld _)) g'.base (W.K 21 _ rfl) rfl (ar_cons (ev_name V1 rfl) (ar_cons (ev_name V2 rfl) ar_nil)) fun vs h2 k2 r => ?_) (by decide) ⟨_, rfl⟩ ⟨_, rfl⟩ fun h3 tk3 c3 F3 Vm Vu => ?_
  · obtain ⟨u, v, rfl, q1, q2⟩ := r.two
    exact sld_spec W (g'.later k2) (hX.keep (kh.trans k2)) q1 q2 hx hy lx ly
  · have l1 : (diffL xs ys).length ≤ xs.length := List.length_filter_le _ _
    have l2 : (diffL ys xs).length ≤ ys.length := List.length_filter_le _ _
    refine ret_ev F3 ?_
    exact ev_addI (c3.al (hX.keep kh)) (ev_name Vm rfl) (ev_name Vu rfl) (by rw [sizeLine_eq]; omega)
theorem ev_apart {env : Env} {e1 e2 : Expr} {p pos : Pos} (W : Wd (KH G.w) G.Bs) (g : Go G (k + 2) A h₁) (hX : Al X h₁) {xs ys : List Int}
    (r1 : Ev G A env h₁ X e1 (dInts xs)) (r2 : Ev G A env h₁ X e2 (dInts ys)) (hx : Rising xs) (hy : Rising ys) (lx : xs.length ≤ 1000) (ly : ys.length ≤ 1000)
    (hkn : env.kindOf "_law_apart" = some .globalImplicit := by rfl) (hg : env.globals = mainGlobals := by rfl) (hk : env.scope.kind = .function := by rfl)
    (hs : starEach [e1, e2] env = (false, eval e1 env) :: starEach [e2] env := by rfl) (hs' : starEach [e2] env = (false, eval e2 env) :: starEach [] env := by rfl) :
    Ev G A env h₁ X (.Call (.Name "_law_apart" p) [e1, e2] [] pos) (dInts (apartL xs ys)) :=
  ev_call (ev_glob W g.base (g_apart _) hg hk hkn) g.base (W.K 56 _ rfl) rfl (ar_cons r1 (ar_cons r2 ar_nil hs') hs) (fun vs h2 k2 r => by
    obtain ⟨u, v, rfl, q1, q2⟩ := r.two
    exact apart_spec W (g.later k2) (hX.keep k2) q1 q2 hx hy lx ly) hs
theorem ev_places {env : Env} {e1 e2 : Expr} {p pos : Pos} (W : Wd (KH G.w) G.Bs) (g : Go G (k + 1) A h₁) (hX : Al X h₁) {n : Int} {ms : List Int} (hm : ms.length = 7)
    (r1 : Ev G A env h₁ X e1 (.int n)) (r2 : Ev G A env h₁ X e2 (dInts ms)) (hn : 0 ≤ n) (hn' : n < 2 ^ 64)
    (hkn : env.kindOf "_law_places" = some .globalImplicit := by rfl) (hg : env.globals = mainGlobals := by rfl) (hk : env.scope.kind = .function := by rfl)
    (hs : starEach [e1, e2] env = (false, eval e1 env) :: starEach [e2] env := by rfl) (hs' : starEach [e2] env = (false, eval e2 env) :: starEach [] env := by rfl) :
    Ev G A env h₁ X (.Call (.Name "_law_places" p) [e1, e2] [] pos) (dInts (placesF n ms)) :=
  ev_call (ev_glob W g.base (g_places _) hg hk hkn) g.base (W.K 66 _ rfl) rfl (ar_cons r1 (ar_cons r2 ar_nil hs') hs) (fun vs h2 k2 r => by
    obtain ⟨u, v, rfl, q1, q2⟩ := r.two
    exact places_spec W (g.later k2) (hX.keep k2) hm q1 q2 hn hn') hs
end
end Mine
namespace Mine
/-- a room for comparing: the datum is not deep -/
theorem depth_dInts (ns : List Int) : (dInts ns).depth = 1 := by show PyData.depthAll _ + 1 = 1; rw [PyProof.Rows.depthAll_ints]
theorem room {G : Gl} {A : Around} {n : Nat} {h : Heap} (g : Go G n A h) {d1 d2 : PyData} (hd : d1.depth ≤ 64) : A.units + min d1.depth d2.depth < cLine := by
  have := g.un; have : min d1.depth d2.depth ≤ d1.depth := Nat.min_le_left _ _
  show _ < 9900; omega
theorem canLayI (ns : List Int) : PyData.canLayAll0 (ns.map .int) = true := by
  induction ns with
  | nil => rfl
  | cons n r ih => rw [List.map_cons, PyData.canLayAll0, ih]; rfl
theorem eqv_int (a b : Int) : PyData.eqv (.int a) (.int b) = (a == b) := rfl
theorem any_eqv (ys : List Int) (z : Int) : ((ys.map PyData.int).any fun y => y.eqv (.int z)) = ys.contains z := by
  induction ys with
  | nil => rfl
  | cons y r ih =>
    rw [List.map_cons, List.any_cons, ih, List.contains_cons, eqv_int]
    congr 1
    exact Bool.eq_iff_iff.mpr (by simp; exact eq_comm)
theorem tr_notInI {G : Gl} {A : Around} {env : Env} {h₁ h₂ : Heap} {X : List Addr} {l r : Expr} {pos : Pos} {n : Nat} {ys : List Int} {z : Int} (g : Go G n A h₂) (hl : Ev G A env h₁ X l (.int z)) (hr : Ev G A env h₁ X r (dInts ys)) (hm : behindInMarks .NotIn r = false := by with_unfolding_all rfl) :
    Tr G A env h₁ (.Compare l [.NotIn] [r] pos) (!ys.contains z) := by
  rw [← any_eqv]
  exact tr_notIn hl hr (by rw [PyProof.Rows.depthAll_ints]; have := g.un; show _ < 9900; omega) hm
theorem ev_same {G : Gl} {A : Around} {env : Env} {h₁ h₂ : Heap} {X : List Addr} {l r : Expr} {pos : Pos} {n : Nat} {d : PyData} (g : Go G n A h₂) (hl : Ev G A env h₁ X l d) (hr : Ev G A env h₁ X r d) (hd : d.depth ≤ 64) (hc : d.canLay0 = true) :
    Ev G A env h₁ X (.Compare l [.Eq] [r] pos) (.bool true) := by
  rw [← SeqAt.eqv_refl d hc]
  exact ev_eq hl hr (room g hd)
section
variable {G : Gl} {A : Around} {h₁ : Heap} {X : List Addr} {k : Nat}
theorem parted_spec (W : Wd (KH G.w) G.Bs) (g : Go G (k + 2) A h₁) (hX : Al X h₁) {xs ys : List Int} {v1 v2 : Value}
    (r1 : Rp X h₁ v1 (dInts xs)) (r2 : Rp X h₁ v2 (dInts ys)) (hx : Rising xs) (hy : Rising ys) (lx : xs.length ≤ 1000) (ly : ys.length ≤ 1000) :
    Does G A h₁ (call (.ref 61) [v1, v2]) (fun h v => Rp X h v (.bool true)) := by
  refine call_def ["one", "other"] g W (W.K 61 _ rfl) rfl rfl rfl rfl rfl rfl rfl (by decide) rfl ?_
  intro s₀ h tk k₀ F P g'
  have kh := k₀.trans F.keep
  have V1 : Var X _ h "one" (dInts xs) := ⟨v1, P _ (.head _), r1.keep kh⟩
  have V2 : Var X _ h "other" (dInts ys) := ⟨v2, P _ (.tail _ (.head _)), r2.keep kh⟩
  have l1 : (diffL xs ys).length ≤ xs.length := List.length_filter_le _ _
  have l2 : (diffL ys xs).length ≤ ys.length := List.length_filter_le _ _
  refine st_let (X := X) (d := .tuple [dInts (diffL xs ys), dInts (diffL ys xs)]) F (ev_call (ev_glob W g'.base (g_sld _)) g'.base (W.K 21 _ rfl) rfl (ar_cons (ev_name V1 rfl) (ar_cons (ev_name V2 rfl) ar_nil)) fun vs h2 k2 r => ?_) ⟨_, rfl⟩ fun h3 tk3 c3 F3 Vt => ?_
  · obtain ⟨u, v, rfl, q1, q2⟩ := r.two
    exact sld_spec W (g'.later k2) (hX.keep (kh.trans k2)) q1 q2 hx hy lx ly
  have ap := F.ap
  have hX3 := c3.al (hX.keep kh)
  have V13 := c3.var ap (by decide) nosub V1
  have V23 := c3.var ap (by decide) nosub V2
  have kb3 : Kp G.Bs G.Bs h3 := (g.base.trans k₀).trans F3.keep
  refine st_let (X := X) (d := .tuple [dInts (diffL xs ys), dInts (diffL ys xs)]) F3 (ev_tuple (ar_cons ?_ (ar_cons ?_ ar_nil)) (show 2 ≤ sizeLine by decide)) ⟨_, rfl⟩ fun h4 tk4 c4 F4 Vd => ?_
  · refine ev_comp' (xs := xs) (enc := .int) (fun z => !ys.contains z) .int (Block.locals rfl rfl (by decide) (by decide)) g'.hd hX3 (it_list g'.hd (ev_name V13 rfl)) (by simp [sizeLine_eq]; omega) ?_ ?_
    · intro z hz
      refine ⟨trivial, fun C D h' kp nD nC al tv => ?_, fun C D h' hp kp nD nC al tv => ev_name tv rfl⟩
      exact tr_notInI g' (ev_name tv rfl) (ev_name ((V23.fresh nD).keep kp).inner rfl)
    · rfl
  · refine ev_comp' (xs := ys) (enc := .int) (fun z => !xs.contains z) .int (Block.locals rfl rfl (by decide) (by decide)) g'.hd hX3 (it_list g'.hd (ev_name V23 rfl)) (by simp [sizeLine_eq]; omega) ?_ ?_
    · intro z hz
      refine ⟨trivial, fun C D h' kp nD nC al tv => ?_, fun C D h' hp kp nD nC al tv => ev_name tv rfl⟩
      exact tr_notInI g' (ev_name tv rfl) (ev_name ((V13.fresh nD).keep kp).inner rfl)
    · rfl
  have Vt4 := c4.var ap (by decide) nosub Vt
  have hX4 := c4.al hX3
  have kb4 : Kp G.Bs G.Bs h4 := (g.base.trans k₀).trans F4.keep
  refine ret_ev F4 ?_
  refine ev_and (b := true) (c := true) ?_ fun _ => ?_
  · exact ev_same g' (ev_name Vt4 rfl) (ev_name Vd rfl) (by show max (dInts _).depth (max (dInts _).depth 0) + 1 ≤ 64; rw [depth_dInts, depth_dInts]; decide) (by show (PyData.canLay0 (dInts _) && (PyData.canLay0 (dInts _) && true)) = true; rw [show PyData.canLay0 (dInts _) = _ from canLayI _, show PyData.canLay0 (dInts _) = _ from canLayI _]; rfl)
  · refine ev_eq (d1 := .list []) (d2 := .list []) ?_ (ev_list hX4 ar_nil) (room g' (by decide))
    refine ev_comp' (xs := diffL xs ys ++ diffL ys xs) (enc := .int) (fun _ => false) .int (Block.locals rfl rfl (by decide) (by decide)) g'.hd hX4 (it_list g'.hd (ev_addI hX4 (ev_itemT (i := 0) (j := 0) (ev_name Vt4 rfl) ev_int (by decide) (by decide) rfl rfl) (ev_itemT (i := 1) (j := 1) (ev_name Vt4 rfl) ev_int (by decide) (by decide) rfl rfl) (by rw [sizeLine_eq]; omega))) (by simp [sizeLine_eq]; omega) ?_ (by simp)
    intro z hz
    refine ⟨trivial, fun C D h' kp nD nC al tv => ?_, fun C D h' hp kp nD nC al tv => ev_name tv rfl⟩
    have kb : Kp G.Bs G.Bs h' := kb4.trans kp
    refine tr_or (b := false) (c := false) (tr_ev (X := D :: X) ?_) fun _ => tr_not (b := true) (tr_ev (X := D :: X) ?_)
    · refine ev_callB (ev_built W kb (g_isinstance _) boot_isinstance) (arR_cons (X := D :: X) (ev_name tv rfl) (arV_cons (ev_built W kb (g_bool _) boot_bool) (ar_nil (X := X)))) fun vs h2 k2 r => ?_
      obtain ⟨v, vs', rfl, rv, vs'', rfl, rn⟩ := r
      rw [rn.nil_inv]
      obtain ⟨t, rfl⟩ := rv.ofInt
      exact fun s Q E k hQ => IsiPair.int_bool (hQ _ s.heap _ (Kp.refl _) (Rp.bool _))
    · refine ev_callB (ev_built W kb (g_isinstance _) boot_isinstance) (arR_cons (X := D :: X) (ev_name tv rfl) (arV_cons (ev_built W kb (g_int _) boot_int) (ar_nil (X := X)))) fun vs h2 k2 r => ?_
      obtain ⟨v, vs', rfl, rv, vs'', rfl, rn⟩ := r
      rw [rn.nil_inv]
      obtain ⟨t, rfl⟩ := rv.ofInt
      exact fun s Q E k hQ => IsiPair.int_int (hQ _ s.heap _ (Kp.refl _) (Rp.bool _))
end
end Mine
namespace Mine
section
variable {G : Gl} {A : Around} {E : Value → Shared → Prop} {env : Env}
/-- a block over range(n) whose turns take from a list of the def's own -/
theorem comp_pops {elt iter : Expr} {x : Str} {px : Pos} {scope : Scope} {cl : List (Str × Addr)} {pos : Pos} {xv : Value} {n : Nat} {P : Addr} {s₁ : Shared} (pl : Nat → List Int) (out : Nat → Int) {RR : Value → Addr → Result → Shared → Prop}
    (hA : A.handled = none) (src : Src G A s₁.heap [P] xv (upto n)) (hsz : n ≤ sizeLine) (B : Block scope cl env (.Name x px))
    (hP : ∃ vs, s₁.heap.PlainList P (List.toArray vs) ∧ IntsAre vs (pl 0))
    (turn : ∀ i, i < n → ∀ C h tk (Q : Value → Shared → Prop) (F : Value → Shared → Prop), Kb G.Bs (· = P) s₁.heap h → s₁.heap.get? C = none → (∃ vs, h.PlainList P (List.toArray vs) ∧ IntsAre vs (pl i)) → Var [] (compEnvC scope (cellsFrom (C + 1) scope.names cl) C env) h x (.int (i : Nat)) →
      (∀ h' tk' t, Kb G.Bs (· = P) h h' → (∃ vs, h'.PlainList P (List.toArray vs) ∧ IntsAre vs (pl (i + 1))) → Q (.int (out i) t) { s₁ with heap := h', toks := tk' }) →
      wpAny (model G.prog G.w) A (eval elt (compEnvC scope (cellsFrom (C + 1) scope.names cl) C env)) Q F { s₁ with heap := h, toks := tk })
    (hRR : ∀ D C h' tk ys, s₁.heap.get? D = none → s₁.heap.get? C = none → D ≠ C → Kb G.Bs (· = P) s₁.heap h' → (∃ m, h'.Ns C m) → h'.IsList D (List.toArray ys) → IntsAre ys ((List.range n).map out) → RR (.ref D) C (.ok .next) { s₁ with heap := h', toks := tk }) :
    wpAny (model G.prog G.w) A (pyIter xv) (fun it s₂ => wpAny (model G.prog G.w) A (newList []) (fun acc s₃ => wpAny (model G.prog G.w) A (newFunctionEnv scope env.globals cl [] env.qual none .none (some env)) (fun cenv s₄ =>
      codeAny (model G.prog G.w) A (.compStart (.ListComp elt [⟨.Name x px, iter, [], 0⟩] scope pos) 0 it acc { cenv with scope := relabel scope env }) (RR acc cenv.locals) s₄) E s₃) E s₂) E s₁ := by
  refine src s₁ _ E (Kp.refl _) fun I fp Pr St h₂ tk₂ k₂ W st₂ hfp hfo hI hPr hStI hStF hStS hown => ?_
  have un : (upto n).length = n := by simp [upto]
  rw [un] at W
  refine wpAny_newObj_type (hd := by size_fits) (comp_env ?_)
  dsimp only
  generalize hH3 : h₂.push { cls := .type "list", dict := none, data := .seq ([] : List Value).toArray } = h₃
  have z3 : h₃.objs.size = h₂.objs.size + 1 := by rw [← hH3, Heap.size_push]
  generalize hH4 : h₃.push { cls := .type "dict", data := .dict #[] } = h₄
  have z4 : h₄.objs.size = h₃.objs.size + 1 := by rw [← hH4, Heap.size_push]
  generalize hH5 : pushCells h₄ scope.names = h₅
  have k3 : ∀ b o, h₂.get? b = some o → h₃.get? b = some o := fun b o e => hH3 ▸ Heap.get?_push_of_some _ e
  have k4 : ∀ b o, h₃.get? b = some o → h₄.get? b = some o := fun b o e => hH4 ▸ Heap.get?_push_of_some _ e
  have k5 : ∀ b o, h₄.get? b = some o → h₅.get? b = some o := hH5 ▸ pushCells_keeps _ _
  have k25 : ∀ b o, h₂.get? b = some o → h₅.get? b = some o := fun b o e => k5 b o (k4 b o (k3 b o e))
  have k15 : Kp G.Bs s₁.heap h₅ := k₂.trans (Kp.of k25)
  have new2 : ∀ a, h₂.objs.size ≤ a → s₁.heap.get? a = none := fun a ha => none_of_kp k₂ (none_ge ha)
  have nD : s₁.heap.get? h₂.objs.size = none := new2 _ (Nat.le_refl _)
  have nC : s₁.heap.get? h₃.objs.size = none := new2 _ (by omega)
  have hDC : h₂.objs.size ≠ h₃.objs.size := by omega
  have nC4 : h₄.Ns h₃.objs.size (fun _ => none) := hH4 ▸ Heap.Ns.new h₃ _
  have can5 := B.can h₄ h₃.objs.size z4 ⟨_, nC4⟩
  rw [hH5] at can5
  have hns5 : h₅.Ns h₃.objs.size (fun _ => none) := nC4.keeps k5
  have hacc5 : h₅.IsList h₂.objs.size #[] := ⟨_, k5 _ _ (k4 _ _ (hH3 ▸ Heap.get?_push_size _ rfl)), rfl, _, rfl⟩
  have hIfp : I ∈ fp := W.sub I (List.mem_singleton.mpr rfl)
  have hIlt : I < h₂.objs.size := by obtain ⟨o, e⟩ := hfp I hIfp; exact Heap.lt_size e
  have aP : ∃ o, s₁.heap.get? P = some o := by obtain ⟨vs, ⟨m, e⟩, _⟩ := hP; exact ⟨_, e⟩
  have PnI : P ≠ I := fun q => by obtain ⟨o, e⟩ := aP; rw [q, hI] at e; cases e
  have fpOff : ∀ b ∈ fp, ∀ a, h₂.objs.size ≤ a → b ≠ a := fun b hb a ha q => by
    subst q
    by_cases q : b = I
    · subst q; exact absurd hIlt (Nat.not_lt.mpr ha)
    · obtain ⟨o, e⟩ := (hfo b hb q).1; rw [new2 b ha] at e; cases e
  have fpP : ∀ b ∈ fp, b ≠ P := fun b hb q => by
    by_cases q' : b = I
    · exact PnI (q ▸ q')
    · exact (hfo b hb q').2 (List.mem_singleton.mpr q)
  have PoffNew : ∀ a, h₂.objs.size ≤ a → P ≠ a := fun a ha q => by obtain ⟨o, e⟩ := aP; rw [q, new2 a ha] at e; cases e
  have hP5 : ∃ vs, h₅.PlainList P (List.toArray vs) ∧ IntsAre vs (pl 0) := hP.imp fun vs q => ⟨k15.plain q.1, q.2⟩
  generalize hC : h₃.objs.size = C at *
  generalize hD : h₂.objs.size = D at *
  have hDlt : D < C := by omega
  have hID : D ≠ I := Nat.ne_of_gt hIlt
  have hIC : C ≠ I := Nat.ne_of_gt (Nat.lt_trans hIlt hDlt)
  have hPD : P ≠ D := PoffNew D (Nat.le_refl _)
  have hPC : P ≠ C := PoffNew C (Nat.le_of_lt hDlt)
  have hge : ∀ a : Nat, C ≤ a → a ≠ I := fun a ha => Nat.ne_of_gt (Nat.lt_of_lt_of_le (Nat.lt_trans hIlt hDlt) ha)
  have hgD : ∀ a : Nat, C ≤ a → a ≠ D := fun a ha => Nat.ne_of_gt (Nat.lt_of_lt_of_le hDlt ha)
  have hgP : ∀ a : Nat, C ≤ a → a ≠ P := fun a ha => Ne.symm (PoffNew a (Nat.le_trans (Nat.le_of_lt hDlt) ha))
  have hslotC := B.slot C
  have turnC : ∀ i, i < n → _ := fun i hi => turn i hi C
  have hap := B.ap C
  generalize hcenv : compEnvC scope (cellsFrom (C + 1) scope.names cl) C env = cenv at *
  have hloc : cenv.locals = C := by rw [← hcenv]; rfl
  have hkc : cenv.scope.kind = .function := by rw [← hcenv]; exact B.kind
  have slotOff : ∀ b, b < C → slotOf cenv x ≠ some b := fun b hb q => by
    obtain ⟨a, ea, ha⟩ := hslotC x (List.mem_singleton.mpr rfl)
    rw [q] at ea; cases ea; omega
  have slotP : slotOf cenv x ≠ some P := fun q => by
    obtain ⟨a, ea, ha⟩ := hslotC x (List.mem_singleton.mpr rfl)
    rw [q] at ea; cases ea; exact hgP _ ha rfl
  have loop : ∀ tk, codeAny (model G.prog G.w) A (.compLoop (.ListComp elt [⟨.Name x px, iter, [], 0⟩] scope pos) 0 (.ref I) (.ref D) cenv) (RR (.ref D) C) { s₁ with heap := h₅, toks := tk } := by
    intro tk
    refine comp_loop (fun k s' => ∃ h t i ys, s' = { s₁ with heap := h, toks := t } ∧ i ≤ n ∧ k = n + 1 - i ∧ St i h ∧ Kb G.Bs (· = P) s₁.heap h ∧ h.IsList D (List.toArray ys) ∧ IntsAre ys ((List.range i).map out) ∧
      (∃ vs, h.PlainList P (List.toArray vs) ∧ IntsAre vs (pl i)) ∧ (∃ m, h.Ns C m) ∧ CanStore cenv h x) ?_ (n + 1) ⟨h₅, tk, 0, [], rfl, Nat.zero_le _, rfl, W.frame _ _ _ st₂ fun b _ o e => k25 b o e, Kb.of k15, hacc5, .nil, hP5, ⟨_, hns5⟩, can5 x (List.mem_singleton.mpr rfl)⟩
    rintro k s' ⟨h, t, i, ys, rfl, hi, rfl, st, kp, hl, rl, hp, hns, can⟩ F
    by_cases hlt : i < n
    · refine W.item i _ _ F hlt st fun v h' t' hPv st' kb => ?_
      obtain ⟨d, ed, rd⟩ := hPr i v hPv
      have ed' : d = .int (i : Nat) := by
        have : (upto n)[i]? = some (.int (i : Nat)) := by simp [upto, hlt]
        rw [this] at ed; cases ed; rfl
      subst ed'
      have kb' : ∀ b o, b ≠ I → h.get? b = some o → h'.get? b = some o := fun b o hb e => kb b o (by simpa using hb) e
      have kbI : Kb G.Bs (· = I) h h' := fun b o hb e => ⟨o, kb' b o hb e, .refl⟩
      have kp' : Kb G.Bs (· = P) s₁.heap h' := fun b o hz e => by
        obtain ⟨o', e', sm⟩ := kp b o hz e
        obtain ⟨o'', e'', sm'⟩ := kbI b o' (fun q => by rw [q, hI] at e; cases e) e'
        exact ⟨o'', e'', sm.trans sm'⟩
      have hl' : h'.IsList D (List.toArray ys) := hl.at fun o e => kb' _ o hID e
      have hns' : ∃ m, h'.Ns C m := hns.imp fun m q => q.at' fun o e => kb' _ o hIC e
      have hp' : ∃ vs, h'.PlainList P (List.toArray vs) ∧ IntsAre vs (pl i) := hp.imp fun vs q => ⟨by obtain ⟨⟨m, e⟩, _⟩ := q; exact ⟨m, kb' _ _ PnI e⟩, q.2⟩
      have can' : CanStore cenv h' x := by
        obtain ⟨a, ea, ha⟩ := hslotC x (List.mem_singleton.mpr rfl)
        exact can.but ea (hge a ha) kbI
      dsimp only
      refine own_ok (target := .Name x px) (d := .int (i : Nat)) trivial (fun elts kk pp v' Q' E' q => hown (i + 1) h' elts kk pp v' st' _ Q' E' rfl q) ?_
      obtain ⟨t0, rfl⟩ := rd.ofInt
      refine st_assign hkc can' fun h₆ t₆ u => ?_
      have ch : Chg G.Bs cenv [x] [] h' h₆ := Chg.ofUpd u
      have chb : ∀ b, (∃ y ∈ [x], slotOf cenv y = some b) ∨ b ∈ ([] : List Addr) → C ≤ b := fun b z => by
        obtain ⟨y, hy, q⟩ := z.resolve_right (fun m => nomatch m)
        rw [List.mem_singleton.mp hy] at q
        obtain ⟨a, ea, ha⟩ := hslotC x (List.mem_singleton.mpr rfl)
        rw [q] at ea; cases ea; exact ha
      have kp6 : Kb G.Bs (· = P) s₁.heap h₆ := fun b o hz e => by
        obtain ⟨o', e', sm⟩ := kp' b o hz e
        obtain ⟨o'', e'', sm'⟩ := ch.keep b o' (fun z => by have := new2 b (Nat.le_trans (Nat.le_of_lt hDlt) (chb b z)); rw [this] at e; cases e) e'
        exact ⟨o'', e'', sm.trans sm'⟩
      have hl6 : h₆.IsList D (List.toArray ys) := ch.keep.list (fun z => absurd hDlt (Nat.not_lt.mpr (chb _ z))) hl'
      have hns6 : ∃ m, h₆.Ns C m := by have := ch.loc (by rw [hloc]; exact hns'); rw [hloc] at this; exact this
      have can6 : CanStore cenv h₆ x := ch.can can'
      have hp6 : ∃ vs, h₆.PlainList P (List.toArray vs) ∧ IntsAre vs (pl i) := hp'.imp fun vs q => ⟨ch.plain q.1 (fun m => nomatch m), q.2⟩
      have st6 : St (i + 1) h₆ := W.frame _ _ _ st' fun b hb o e => ch.keep.ex (fun z => fpOff b hb b (Nat.le_trans (Nat.le_of_lt hDlt) (chb b z)) rfl) e (hStF _ _ b o st' hb e).1
      refine wpAny_tests_nil ?_
      rw [if_pos rfl]
      refine turnC i hlt h₆ t₆ _ F kp6 nC hp6 ⟨_, u.self, Rp.int _ _⟩ fun h₇ t₇ tt k7 hp7 => ?_
      have hl7 : h₇.IsList D (List.toArray ys) := k7.list (Ne.symm hPD) hl6
      have lz := IntsAre.len rl
      rw [List.length_map, List.length_range] at lz
      refine wpAny_list_append hl7 (fun h₉ hl9 s9 => ?_) (by rw [List.size_toArray]; omega)
      have ky : Kb G.Bs (fun b => b = P ∨ b = D) h₆ h₉ := (k7.weak fun _ q => .inl q).trans ((Kb.same s9).weak fun _ q => .inr q)
      refine ⟨n + 1 - (i + 1), by omega, h₉, t₇, i + 1, ys ++ [.int (out i) tt], rfl, hlt, rfl, W.frame _ _ _ st6 fun b hb o e => ky.ex (fun q => q.elim (fpP b hb) fun q => fpOff b hb D (Nat.le_refl _) q) e (hStF _ _ b o st6 hb e).1,
        fun b o hz e => ?_, by simpa using hl9, ?_, ?_, hns6.imp fun m q => ky.ns (fun z => z.elim (Ne.symm hPC) (hgD C (Nat.le_refl _))) q, ?_⟩
      · obtain ⟨o', e', sm⟩ := kp6 b o hz e
        obtain ⟨o'', e'', sm'⟩ := ky b o' (fun z => z.elim hz fun q => by rw [q, nD] at e; cases e) e'
        exact ⟨o'', e'', sm.trans sm'⟩
      · rw [List.range_succ, List.map_append]
        exact IntsAre.append rl (.cons _ _ .nil)
      · obtain ⟨vs, ⟨m, e⟩, q⟩ := hp7
        exact ⟨vs, ⟨m, (s9.2 P hPD).trans e⟩, q⟩
      · obtain ⟨a, ea, ha⟩ := hslotC x (List.mem_singleton.mpr rfl)
        exact can6.but ea (fun z => z.elim (hgP a ha) (hgD a ha)) ky
    · have hin : i = n := by omega
      subst hin
      refine W.done _ _ F st fun h' t' kb => ?_
      have kb' : ∀ b o, b ≠ I → h.get? b = some o → h'.get? b = some o := fun b o hb e => kb b o (by simpa using hb) e
      have kbI : Kb G.Bs (· = I) h h' := fun b o hb e => ⟨o, kb' b o hb e, .refl⟩
      refine hRR D C h' t' ys nD nC hDC (fun b o hz e => ?_) (hns.imp fun m q => q.at' fun o e => kb' _ o hIC e) (hl.at fun o e => kb' _ o hID e) rl
      obtain ⟨o', e', sm⟩ := kp b o hz e
      obtain ⟨o'', e'', sm'⟩ := kbI b o' (fun q => by rw [q, hI] at e; cases e) e'
      exact ⟨o'', e'', sm.trans sm'⟩
  have lp := loop tk₂
  rw [← hcenv] at lp
  refine codeAny_compStart_list lp (W.self 0 _ _ _ (W.frame _ _ _ st₂ fun b _ o e => k25 b o e) ?_)
  exact lp
end
end Mine
namespace Mine
theorem Does.go {G : Gl} {A : Around} {α : Type} {h : Heap} {t : Sem α} {R : Heap → α → Prop} (x : Does G A h t R) {s : Shared} {Q : α → Shared → Prop} {E : Value → Shared → Prop} (k : Kp G.Bs h s.heap) (hQ : ∀ a h' tk, Kp G.Bs s.heap h' → R h' a → Q a { s with heap := h', toks := tk }) : wpAny (model G.prog G.w) A t Q E s := x s Q E k hQ
def Fn.env {G : Gl} {s₀ : Shared} {env : Env} {h : Heap} (_ : Fn G s₀ env h) : Env := env
theorem g_list (w : World) : nsIn (KH w) mainGlobals "list" = some none := by rfl
theorem g_order (w : World) : nsIn (KH w) mainGlobals "_law_order" = some (some (.ref 71)) := by rfl
def popIdx (total : Int) (i len : Nat) : Nat := (((total.fdiv 64).fdiv (5 ^ i)).fmod len).toNat
def plF (total : Int) (n : Nat) : Nat → List Int
  | 0 => (List.range n).map fun i => (i : Nat)
  | i + 1 => (plF total n i).eraseIdx (popIdx total i (plF total n i).length)
def outF (total : Int) (n i : Nat) : Int := (plF total n i).getD (popIdx total i (plF total n i).length) 0
def orderF (n : Nat) (total : Int) : List Int := (List.range n).map (outF total n)
theorem popIdx_lt {total : Int} {i len : Nat} (h : 0 < len) : popIdx total i len < len := by
  unfold popIdx
  have h1 := Int.fmod_lt_of_pos ((total.fdiv 64).fdiv (5 ^ i)) (b := (len : Int)) (by omega)
  have h2 := Int.fmod_nonneg_of_pos ((total.fdiv 64).fdiv (5 ^ i)) (b := (len : Int)) (by omega)
  omega
theorem plF_len (total : Int) (n : Nat) : ∀ i, i ≤ n → (plF total n i).length = n - i
  | 0, _ => by simp [plF]
  | i + 1, h => by
    have ih := plF_len total n i (by omega)
    have := popIdx_lt (total := total) (i := i) (len := (plF total n i).length) (by omega)
    rw [plF, List.length_eraseIdx_of_lt this, ih]; omega
theorem IntsAre.eraseIdx {vs : List Value} {ns : List Int} (h : IntsAre vs ns) : ∀ k, IntsAre (vs.eraseIdx k) (ns.eraseIdx k) := by
  induction h with
  | nil => intro k; exact .nil
  | cons n t h ih =>
    intro k
    cases k with
    | zero => exact h
    | succ k => exact .cons n t (ih k)
theorem Look.off {Bs h h' : Heap} {env : Env} {x : Str} {v : Value} {P : Addr} {its : Array Value} (l : Look env h x v) (k : Kb Bs (· = P) h h') (pl : h.PlainList P its) : Look env h' x v := by
  obtain ⟨m0, e0⟩ := pl
  rcases l with ⟨a, m, n, e⟩ | ⟨a, c, e, i⟩
  · exact .inl ⟨a, m, k.ns (fun q => by obtain ⟨o, _, _, q', d, _⟩ := n; rw [q, e0] at q'; cases q'; cases d) n, e⟩
  · exact .inr ⟨a, c, e, k.cell (fun q => by obtain ⟨o, q', d⟩ := i; rw [q, e0] at q'; cases q'; cases d) i⟩
section
variable {G : Gl} {A : Around} {h₁ : Heap} {X : List Addr} {k : Nat}
theorem order_spec (W : Wd (KH G.w) G.Bs) (g : Go G (k + 2) A h₁) (hX : Al X h₁) {n : Nat} {total : Int} (hn : n ≤ 4) {v1 v2 : Value} (r1 : Rp X h₁ v1 (.int (n : Nat))) (r2 : Rp X h₁ v2 (.int total)) :
    Does G A h₁ (call (.ref 71) [v1, v2]) (fun h v => Rp X h v (dInts (orderF n total))) := by
  refine call_def ["n", "total"] g W (W.K 71 _ rfl) rfl rfl rfl rfl rfl rfl rfl (by decide) rfl ?_
  intro s₀ h tk k₀ F P g'
  have kh := k₀.trans F.keep
  have V1 : Var [] _ h "n" (.int (n : Nat)) := ⟨v1, P _ (.head _), (r1.keep kh).sub nosub⟩
  have V2 : Var [] _ h "total" (.int total) := ⟨v2, P _ (.tail _ (.head _)), (r2.keep kh).sub nosub⟩
  refine st_set (R := fun h' v => ∃ Pa vs, v = .ref Pa ∧ h.get? Pa = none ∧ h'.PlainList Pa (List.toArray vs) ∧ IntsAre vs (plF total n 0)) F (ev_callT (ev_built W g'.base (g_list _) boot_list) (R1 := fun h' vs => ∃ r t u z, vs = [.ref r] ∧ IsRange h' r 0 n 1 t u z) ?args fun vs h2 k2 r => ?_) ⟨_, rfl⟩ fun v h2 h3 tk3 k2 r u3 c3 F3 => ?_
  case args =>
    intro s Q E kp hQ
    refine args_cons (Does.go (ev_range W (g'.base.trans kp) (ev_name (X := []) (V1.keep kp) rfl) (g_range _)) (Kp.refl _) fun v h2 tk2 k2 r => args_nil ?_) rfl
    obtain ⟨r, t, u, z, rfl, hr⟩ := r
    exact hQ _ h2 tk2 k2 ⟨r, t, u, z, rfl, hr⟩
  · obtain ⟨r, t, u, z, rfl, hr⟩ := r
    intro s Q E kp hQ
    have hr' : IsRange s.heap r 0 n 1 t u z := kp.ex hr fun _ _ q => nomatch q
    refine call_list_range (n := n) g'.hd hr' (small_one (by omega) (by omega) (by omega) (by omega)) (by rw [rangeSize_one]; split <;> omega) (by omega) fun h' tk' acc c hk hS' hacc => ?_
    refine hQ _ h' tk' (Kp.of hk) ⟨_, acc.toList, rfl, none_of_kp (k2.trans kp) (none_ge (Nat.le_refl _)), ⟨c, by simpa using hS'⟩, ?_⟩
    have hlen := hacc.1
    have key : ∀ (m : Nat) (l : List Value), (∀ j v, l[j]? = some v → ∃ t, v = Value.int ((m + j : Nat) : Int) t) → IntsAre l ((List.range' m l.length).map fun i => ((i : Nat) : Int)) := by
      intro m l
      induction l generalizing m with
      | nil => intro _; exact .nil
      | cons a l ih =>
        intro hl
        obtain ⟨t, rfl⟩ := hl 0 a rfl
        rw [List.length_cons, List.range'_succ, List.map_cons]
        exact .cons _ t (ih (m + 1) fun j v e => by
          obtain ⟨t, e⟩ := hl (j + 1) v (by simpa using e)
          exact ⟨t, by rw [e]; congr 2; omega⟩)
    have := key 0 acc.toList fun j v e => by
      obtain ⟨t, q⟩ := hacc.2 j v (by simpa using e)
      exact ⟨t, by rw [q]; congr 1; omega⟩
    rw [Array.length_toList, hlen, ← List.range_eq_range'] at this
    exact this
  obtain ⟨Pa, vs, rfl, nP, pl2, ip⟩ := r
  have ap := F.ap
  have pl3 : h3.PlainList Pa (List.toArray vs) := (Chg.ofUpd (Bs := G.Bs) u3).plain pl2 (fun q => nomatch q)
  have V13 := c3.var ap (by decide) nosub V1
  have V23 := c3.var ap (by decide) nosub V2
  have LP := u3.self
  have nPs : s₀.heap.get? Pa = none := none_of_kp F.keep nP
  have hX3 : Al X h3 := c3.al (hX.keep kh)
  have XP : Pa ∉ X := (hX.keep kh).outOf nP
  have kb3 : Kp G.Bs G.Bs h3 := (g.base.trans k₀).trans F3.keep
  refine wpAny_execs_cons (wpAny_Return_some ?_)
  rw [eval_ListComp]
  refine wpAny_comprehension_free (use := none) rfl (fun _ => rfl) rfl rfl (by decide) ?_
  have V1P : Var [Pa] _ h3 "n" (.int (n : Nat)) := V13.imp fun v q => ⟨q.1, by obtain ⟨t, rfl⟩ := q.2.ofInt; exact Rp.int _ _⟩
  refine Does.go (it_range (X := [Pa]) W g'.hd kb3 (g_range _) (ev_name V1P rfl) (n := n) (by omega)) (Kp.refl _) fun xv h4 tk4 k4 src => ?_
  have kb4 : Kp G.Bs G.Bs h4 := kb3.trans k4
  refine comp_pops (s₁ := { s₀ with heap := h4, toks := tk4 }) (plF total n) (outF total n) (RR := fun acc C => compPost (model G.prog G.w) _ NoE none _ acc C) g'.hd src (by rw [sizeLine_eq]; omega) (Block.locals rfl rfl (by decide) (by decide)) ⟨vs, k4.plain pl3, ip⟩ ?_ ?_
  · intro i hi C h5 tk5 Q F' kp5 nC hp5 tv hQ
    have nPB : G.Bs.get? Pa = none := none_of_kp (g.base.trans k₀) nPs
    have kb5 : Kp G.Bs G.Bs h5 := kp5.kp kb4 fun a q => by rw [q]; exact nPB
    have LP5 := (LP.keep k4).off kp5 (k4.plain pl3)
    have V25 : Var [] _ h5 "total" (.int total) := (V23.keep k4).imp fun v q => ⟨q.1.off kp5 (k4.plain pl3), by obtain ⟨t, rfl⟩ := q.2.ofInt; exact Rp.int _ _⟩
    obtain ⟨ws, pl5, i5⟩ := hp5
    have VP : Var [] _ h5 "places" (dInts (plF total n i)) := ⟨_, LP5, Rp.list pl5.isList (fun q => nomatch q) (IntsAre.rpL i5)⟩
    have hlen := plF_len total n i (by omega)
    have hi4 : i < 4 := by omega
    have h5p : ((5 : Int) ^ i) ≠ 0 := by
      have : (0 : Int) < 5 ^ i := Int.pow_pos (by decide)
      omega
    have h5a : ((5 : Int) ^ i).natAbs < 2 ^ 64 := by
      rw [Int.natAbs_pow]
      exact Nat.lt_of_lt_of_le (Nat.pow_lt_pow_right (by decide) hi4) (by decide)
    refine meth (evV_name (LP5.inner rfl (.inl rfl) rfl) rfl) pl5 (ar_cons (X := []) (ev_mod (ev_fdiv (ev_fdiv (ev_name V25.inner rfl) ev_int (by decide) (pylong_small (by decide))) (ev_pow ev_int (ev_name tv rfl) (by omega) (by omega) (by decide)) h5p (pylong_small h5a)) (ev_len W kb5 (g_len _) (ev_name VP.inner rfl) (by simp; omega)) (by rw [List.length_map]; omega)) ar_nil) PySem.F.slot_list_pop PySem.F.type_list_pop (fun us h6 tk6 k6 r => ?_)
    obtain ⟨v, vs', rfl, rv, rn⟩ := r.cons_inv
    rw [rn.nil_inv]
    obtain ⟨t, rfl⟩ := rv.ofInt
    have il := popIdx_lt (total := total) (i := i) (len := (plF total n i).length) (by omega)
    have ex : ((((total.fdiv 64).fdiv (5 ^ (((i : Nat) : Int)).toNat)).fmod ((List.map PyData.int (plF total n i)).length : Nat))).toNat = popIdx total i (plF total n i).length := by simp [popIdx]
    have e0 : 0 ≤ (((total.fdiv 64).fdiv (5 ^ (((i : Nat) : Int)).toNat)).fmod ((List.map PyData.int (plF total n i)).length : Nat)) := Int.fmod_nonneg_of_pos _ (by simp; omega)
    obtain ⟨ty, ey⟩ := IntsAre.get i5 (k := popIdx total i (plF total n i).length) (z := outF total n i) (by unfold outF; rw [List.getD_eq_getElem?_getD, List.getElem?_eq_getElem il]; rfl)
    have lw := IntsAre.len i5
    refine do_pop (env := F.env) (k6.plain pl5) e0 (y := .int (outF total n i) ty) (by rw [ex]; simpa using ey) (by simp; omega) fun h7 pl7 c7 => ?_
    rw [ex] at pl7
    refine hQ h7 tk6 ty ?_ ⟨ws.eraseIdx (popIdx total i (plF total n i).length), ?_, IntsAre.eraseIdx i5 _⟩
    · exact (Kb.of k6).trans (c7.keep.weak fun b q => q.elim (fun ⟨_, m, _⟩ => nomatch m) fun m => List.mem_singleton.mp m)
    · have : (List.toArray ws).eraseIdxIfInBounds (popIdx total i (plF total n i).length) = List.toArray (ws.eraseIdx (popIdx total i (plF total n i).length)) := by
        have : popIdx total i (plF total n i).length < ws.length := by omega
        simp [Array.eraseIdxIfInBounds, this]
      rw [this] at pl7
      exact pl7
  · intro D C h5 tk5 ys nD nC hDC kp5 hns hl hi
    obtain ⟨m, hns⟩ := hns
    refine ⟨m, hns, fun h6 s6 => ?_⟩
    have kC : Kb G.Bs (fun b => b = Pa ∨ b = C) h4 h6 := (kp5.weak fun _ q => .inl q).trans ((Kb.same s6).weak fun _ q => .inr q)
    have F4 := F3.kp k4
    refine ⟨.ref D, h6, tk5, rfl, rfl, kC.kp F4.keep fun b q => q.elim (fun q => by rw [q]; exact nPs) fun q => by rw [q]; exact none_of_kp F4.keep nC, ?_⟩
    exact Rp.list (hl.at fun o e => (s6.2 D hDC).trans e) ((hX3.keep k4).outOf nD) (IntsAre.rpL hi)
end
end Mine
namespace Mine
/-- the marks of a number -/
def wordOf (ms : List Int) (x : Nat) : List Int := ((List.range 7).filter fun c => x.testBit c).map fun c => ms.getD c 0
def pc (x : Nat) : Nat := ((List.range 7).filter fun c => x.testBit c).length
theorem bit_fdiv (x c : Nat) : ((((x : Int).fdiv (2 ^ c)).fmod 2 == 1) : Bool) = x.testBit c := by
  have e1 : ((x : Int).fdiv (2 ^ c)) = ((x / 2 ^ c : Nat) : Int) := by
    have h2 : (2 : Int) ^ c = ((2 ^ c : Nat) : Int) := by simp
    rw [h2, Int.fdiv_eq_ediv_of_nonneg _ (Int.natCast_nonneg _), Int.natCast_ediv]
  have e2 : (((x / 2 ^ c : Nat) : Int)).fmod 2 = ((x / 2 ^ c % 2 : Nat) : Int) := by
    rw [Int.fmod_eq_emod_of_nonneg _ (by decide)]; omega
  rw [e1, e2, Nat.testBit_eq_decide_div_mod_eq]
  by_cases h : x / 2 ^ c % 2 = 1
  · rw [h]; rfl
  · have h' : ¬ ((x / 2 ^ c % 2 : Nat) : Int) = 1 := by omega
    rw [decide_eq_false h]; exact beq_eq_false_iff_ne.mpr h'
theorem placesF_nat (ms : List Int) (x : Nat) : placesF (x : Int) ms = wordOf ms x := by
  unfold placesF wordOf
  congr 1
  exact List.filter_congr fun c _ => bit_fdiv x c
structure Ms (ms : List Int) : Prop where
  len : ms.length = 7
  up : Rising ms
theorem Ms.lt {ms : List Int} (h : Ms ms) {i j : Nat} (hi : i < j) (hj : j < 7) : ms.getD i 0 < ms.getD j 0 := by
  have hj' : j < ms.length := by rw [h.len]; exact hj
  have hi' : i < ms.length := by omega
  rw [List.getD_eq_getElem?_getD, List.getD_eq_getElem?_getD, List.getElem?_eq_getElem hi', List.getElem?_eq_getElem hj']
  exact List.pairwise_iff_getElem.mp h.up i j hi' hj' hi
theorem range_up : ∀ n, (List.range n).Pairwise (· < ·) := fun n => List.pairwise_lt_range
theorem map_up {ms : List Int} (h : Ms ms) {l : List Nat} (hl : l.Pairwise (· < ·)) (h7 : ∀ c ∈ l, c < 7) : Rising (l.map fun c => ms.getD c 0) := by
  induction hl with
  | nil => exact .nil
  | cons hx hr ih =>
    rename_i x r
    rw [List.map_cons]
    refine List.pairwise_cons.mpr ⟨fun b hb => ?_, ih fun c hc => h7 c (List.mem_cons_of_mem _ hc)⟩
    obtain ⟨c, hc, rfl⟩ := List.mem_map.mp hb
    exact h.lt (hx c hc) (h7 c (List.mem_cons_of_mem _ hc))
theorem wordOf_up {ms : List Int} (h : Ms ms) (x : Nat) : Rising (wordOf ms x) :=
  map_up h ((range_up 7).filter _) fun c hc => List.mem_range.mp (List.mem_filter.mp hc).1
theorem wordOf_len (ms : List Int) (x : Nat) : (wordOf ms x).length = pc x := by rw [wordOf, List.length_map]; rfl
theorem pc_le (x : Nat) : pc x ≤ 7 := Nat.le_trans (List.length_filter_le _ _) (by simp)
theorem Ms.inj {ms : List Int} (h : Ms ms) {i j : Nat} (hi : i < 7) (hj : j < 7) (e : ms.getD i 0 = ms.getD j 0) : i = j := by
  rcases Nat.lt_trichotomy i j with q | q | q
  · have := h.lt q hj; omega
  · exact q
  · have := h.lt q hi; omega
theorem mem_word {ms : List Int} (h : Ms ms) (x : Nat) {c : Nat} (hc : c < 7) : (wordOf ms x).contains (ms.getD c 0) = x.testBit c := by
  rw [Bool.eq_iff_iff, List.contains_iff_mem]
  constructor
  · intro m
    obtain ⟨d, hd, e⟩ := List.mem_map.mp m
    obtain ⟨hd1, hd2⟩ := List.mem_filter.mp hd
    have := h.inj (List.mem_range.mp hd1) hc e
    subst this; exact hd2
  · intro b
    exact List.mem_map.mpr ⟨c, List.mem_filter.mpr ⟨List.mem_range.mpr hc, b⟩, rfl⟩
theorem diff_word {ms : List Int} (h : Ms ms) (x y : Nat) : diffL (wordOf ms x) (wordOf ms y) = ((List.range 7).filter fun c => x.testBit c && !y.testBit c).map fun c => ms.getD c 0 := by
  unfold diffL
  rw [show wordOf ms x = ((List.range 7).filter fun c => x.testBit c).map fun c => ms.getD c 0 from rfl, List.filter_map, List.filter_filter]
  congr 1
  refine List.filter_congr fun c hc => ?_
  have := mem_word h y (List.mem_range.mp hc)
  show ((!(wordOf ms y).contains (ms.getD c 0)) && x.testBit c) = _
  rw [this, Bool.and_comm]
theorem filter_xor (p q : Nat → Bool) : ∀ l : List Nat, (l.filter (fun c => p c && !q c) ++ l.filter (fun c => q c && !p c)).Perm (l.filter fun c => p c != q c)
  | [] => .nil
  | c :: l => by
    have ih := filter_xor p q l
    simp only [List.filter_cons]
    cases hp : p c <;> cases hq : q c <;> simp
    · exact ih
    · exact (List.perm_middle).trans (ih.cons c)
    · exact ih
    · exact ih
theorem apart_word {ms : List Int} (h : Ms ms) (x y : Nat) : (wordOf ms (x ^^^ y)).Perm (apartL (wordOf ms x) (wordOf ms y)) := by
  unfold apartL
  rw [diff_word h, diff_word h, ← List.map_append]
  refine List.Perm.map _ ?_
  refine List.Perm.symm ((filter_xor (fun c => x.testBit c) (fun c => y.testBit c) (List.range 7)).trans (List.Perm.of_eq ?_))
  exact List.filter_congr fun c _ => by simp
theorem apart_len {ms : List Int} (h : Ms ms) (x y : Nat) : (apartL (wordOf ms x) (wordOf ms y)).length = pc (x ^^^ y) := by
  rw [← (apart_word h x y).length_eq, wordOf_len]
theorem word_inj {ms : List Int} (h : Ms ms) {x y : Nat} (hx : x < 128) (hy : y < 128) (e : wordOf ms x = wordOf ms y) : x = y := by
  refine Nat.eq_of_testBit_eq fun i => ?_
  by_cases hi : i < 7
  · rw [← mem_word h x hi, ← mem_word h y hi, e]
  · have h2 : (128 : Nat) ≤ 2 ^ i := by
      have := Nat.pow_le_pow_right (show 0 < 2 by decide) (show 7 ≤ i by omega)
      exact this
    rw [Nat.testBit_lt_two_pow (by omega), Nat.testBit_lt_two_pow (by omega)]
theorem xor_128 {x y : Nat} (hx : x < 128) (hy : y < 128) : x ^^^ y < 128 := Nat.xor_lt_two_pow (n := 7) hx hy
end Mine
namespace Mine
theorem g_sorted (w : World) : nsIn (KH w) mainGlobals "sorted" = some none := by rfl
theorem g_cards (w : World) : nsIn (KH w) mainGlobals "_law_cards" = some (some (.ref 76)) := by rfl
abbrev Card := List Int × Nat
def dCard (ms : List Int) (c : Card) : PyData := .tuple [.tuple (c.1.map .int), dInts (wordOf ms c.2)]
def dCards (ms : List Int) (cs : List Card) : PyData := .list (cs.map (dCard ms))
def cardStep (cs : List Card) (a : Nat) : List Card := cs.map (fun c => (c.1 ++ [0], c.2)) ++ cs.map (fun c => (c.1 ++ [1], c.2 ^^^ a))
def cardsF (as : List Nat) : List Card := as.foldl cardStep [([], 0)]
theorem cardStep_len (cs : List Card) (a : Nat) : (cardStep cs a).length = 2 * cs.length := by simp [cardStep]; omega
theorem cards_len (as : List Nat) : (cardsF as).length = 2 ^ as.length := by
  have : ∀ (as : List Nat) (cs : List Card), (as.foldl cardStep cs).length = 2 ^ as.length * cs.length := by
    intro as
    induction as with
    | nil => intro cs; simp
    | cons a as ih => intro cs; rw [List.foldl_cons, ih, cardStep_len, List.length_cons, Nat.pow_succ, Nat.mul_assoc]
  rw [cardsF, this]; simp
theorem cards_row (as : List Nat) : ∀ c ∈ cardsF as, c.1.length = as.length := by
  have : ∀ (as : List Nat) (cs : List Card) (n : Nat), (∀ c ∈ cs, c.1.length = n) → ∀ c ∈ as.foldl cardStep cs, c.1.length = n + as.length := by
    intro as
    induction as with
    | nil => intro cs n h; exact h
    | cons a as ih =>
      intro cs n h c hc
      have := ih (cardStep cs a) (n + 1) (fun c hc => by
        rcases List.mem_append.mp hc with m | m
        · obtain ⟨d, hd, rfl⟩ := List.mem_map.mp m; simp [h d hd]
        · obtain ⟨d, hd, rfl⟩ := List.mem_map.mp m; simp [h d hd]) c hc
      rw [this, List.length_cons]; omega
  intro c hc
  have := this as [([], 0)] 0 (by simp) c hc
  omega
theorem filt_true {α : Type} (l : List α) : l.filter (fun _ => true) = l := List.filter_eq_self.mpr fun _ _ => rfl
theorem word_zero (ms : List Int) : wordOf ms 0 = [] := by simp [wordOf]
theorem Go.at {G : Gl} {A : Around} {n : Nat} {h₁ hc : Heap} {s₀ : Shared} {env : Env} (g : Go G (n + 1) A h₁) (k₀ : Kp G.Bs h₁ s₀.heap) (F : Fn G s₀ env hc) : Go G n (A.deeper env) hc := by
  obtain ⟨l, e, f⟩ := g.fr
  exact ⟨g.hd, by have := g.dp; show A.depth + 1 + n < 900; omega, by have := g.un; show A.units + 3 + 20 * n < 9000; omega, (g.base.trans k₀).trans F.keep, env :: l, by show A.frames.map _ = _; rw [e]; rfl, F.frames (f.keep k₀) (g.base.trans k₀)⟩
theorem slotL {env : Env} {x : Str} (h : env.kindOf x = some .local) : ∃ a, slotOf env x = some a := ⟨env.locals, by unfold slotOf; rw [h]⟩
theorem ev_addT2 {G : Gl} {A : Around} {env : Env} {h₁ : Heap} {X : List Addr} {l r : Expr} {pos : Pos} {xs ys : List Int} (hl : Ev G A env h₁ X l (.tuple (xs.map .int))) (hr : Ev G A env h₁ X r (.tuple (ys.map .int))) (hsz : xs.length + ys.length ≤ sizeLine) : Ev G A env h₁ X (.BinOp l .Add r pos) (.tuple ((xs ++ ys).map .int)) := by
  rw [List.map_append]
  exact ev_addT hl hr (by simpa using hsz)
section
variable {G : Gl} {A : Around} {h₁ : Heap} {X : List Addr} {k : Nat}
theorem cards_spec (W : Wd (KH G.w) G.Bs) (g : Go G (k + 3) A h₁) (hX : Al X h₁) {as : List Nat} {ms : List Int} (hm : Ms ms) (ha : as.length ≤ 4) {v : Value} (r : Rp X h₁ v (.list (as.map fun a => dInts (wordOf ms a)))) :
    Does G A h₁ (call (.ref 76) [v]) (fun h v => Rp X h v (dCards ms (cardsF as))) := by
  refine call_def ["vectors"] g W (W.K 76 _ rfl) rfl rfl rfl rfl rfl rfl rfl (by decide) rfl ?_
  intro s₀ h tk k₀ F P g'
  have kh := k₀.trans F.keep
  have hb : Kp G.Bs G.Bs s₀.heap := g.base.trans k₀
  have Vv : Var X _ h "vectors" (.list (as.map fun a => dInts (wordOf ms a))) := ⟨v, P _ (.head _), r.keep kh⟩
  have hXh := hX.keep kh
  refine st_let (X := X) (d := .list [.tuple [.tuple [], .list []]]) F (ev_list hXh (ar_cons (ev_tuple (ar_cons (ev_tuple (ar_nil (X := X))) (ar_cons (ev_list hXh (ar_nil (X := X))) ar_nil))) ar_nil)) ⟨_, rfl⟩ fun h2 tk2 c2 F2 Vc0 => ?_
  have e0 : (.list [.tuple [.tuple [], .list []]] : PyData) = dCards ms (cardsF []) := by simp [dCards, cardsF, dCard, word_zero, dInts]
  rw [e0] at Vc0
  have ap := F.ap
  have Vv2 := c2.var ap (by decide) nosub Vv
  have hX2 := c2.al hXh
  refine st_for (X := X) (Y := []) (ds := as.map fun a => dInts (wordOf ms a)) ["vector", "taken", "cards"] F2 g'.hd hX2 nosub (fun _ q => nomatch q) (it_list g'.hd (ev_name Vv2 rfl)) (fun x hx => ?_) (fun _ _ => trivial)
    (fun i h => Var X _ h "cards" (dCards ms (cardsF (as.take i)))) Vc0 ?_ ?_
  · rw [List.mem_singleton.mp hx]; exact ⟨by decide, _, rfl⟩
  · intro i d hi hc tk3 E' ed Ji stl Fc alc tv
    rw [List.getElem?_map] at ed
    obtain ⟨a, ea, rfl⟩ := Option.map_eq_some_iff.mp ed
    have Vc3 := stl.var ap (by decide) Ji
    have Va : Var X _ hc "vector" (dInts (wordOf ms a)) := tv
    have ila : i < as.length := (List.getElem?_eq_some_iff.mp ea).1
    have bl : (cardsF (as.take i)).length ≤ 16 := by
      rw [cards_len, List.length_take]
      exact Nat.le_trans (Nat.pow_le_pow_right (by decide) (show min i as.length ≤ 4 by omega)) (by decide)
    have kbc : Kp G.Bs G.Bs hc := hb.trans Fc.keep
    have gc := g.at k₀ Fc
    have nx : cardsF (as.take (i + 1)) = cardStep (cardsF (as.take i)) a := by
      rw [List.take_add_one, ea]; simp [cardsF, List.foldl_append]
    have brow : ∀ c ∈ cardsF (as.take i), c.1.length ≤ 4 := fun c hc => by
      rw [cards_row _ c hc, List.length_take]; omega
    generalize hcs : cardsF (as.take i) = cs at *
    refine st_letComp (X := X) (xs := cs) (enc := dCard ms) Fc (fun _ => true) (fun c => dCard ms (c.1 ++ [1], c.2 ^^^ a)) (Block.locals rfl rfl (by decide) (by decide)) g'.hd alc rfl (it_list g'.hd (ev_name Vc3 rfl)) (by rw [sizeLine_eq]; omega) ?_ fun h4 tk4 c4 F4 Vt => ?_
    · intro c hc
      refine ⟨show ("row" : Str) ≠ "word" by decide, fun C D h' kp nD nC al tv => rfl, fun C D h' hp kp nD nC al tv => ?_⟩
      have gh := gc.later kp
      refine ev_tuple (ar_cons (ev_addT2 (ev_name tv.1 rfl) (ev_tuple (ar_cons (ev_int (i := 1)) ar_nil)) ?_) (ar_cons (ev_sorted W gh.base (g_sorted _) al (ev_apart W gh al (ev_name tv.2 rfl) (ev_name ((Va.fresh nD).keep kp).inner rfl) (wordOf_up hm _) (wordOf_up hm _) ?_ ?_) ?_ (apart_word hm _ _) (wordOf_up hm _)) ar_nil)) (show 2 ≤ sizeLine by decide)
      · have := brow c hc; show c.1.length + 1 ≤ _; rw [sizeLine_eq]; omega
      · rw [wordOf_len]; have := pc_le c.2; omega
      · rw [wordOf_len]; have := pc_le a; omega
      · rw [apart_len hm]; have := pc_le (c.2 ^^^ a); omega
    rw [filt_true] at Vt
    have Vc4 := c4.var ap (by decide) nosub Vc3
    have al4 := c4.al alc
    have ed4 : dCards ms (cardStep cs a) = .list ((cs.map fun c => dCard ms (c.1 ++ [0], c.2)) ++ (cs.map fun c => dCard ms (c.1 ++ [1], c.2 ^^^ a))) := by
      simp [dCards, cardStep, List.map_append, Function.comp_def]
    refine st_let (X := X) (d := dCards ms (cardStep cs a)) F4 ?_ ⟨_, rfl⟩ fun h5 tk5 c5 F5 Vc5 => wpAny_execs_nil ⟨h5, tk5, rfl, (c4.trans c5).sub (by decide) (fun _ q => nomatch q), by rw [nx]; exact Vc5⟩
    rw [ed4]
    refine ev_addL al4 (ev_comp' (xs := cs) (enc := dCard ms) (fun _ => true) (fun c => dCard ms (c.1 ++ [0], c.2)) (Block.locals rfl rfl (by decide) (by decide)) g'.hd al4 (it_list g'.hd (ev_name Vc4 rfl)) (by rw [sizeLine_eq]; omega) ?_ (by rw [filt_true])) (ev_name Vt rfl) (by simp [sizeLine_eq]; omega)
    intro c hc
    refine ⟨show ("row" : Str) ≠ "word" by decide, fun C D h' kp nD nC al tv => rfl, fun C D h' hp kp nD nC al tv => ?_⟩
    exact ev_tuple (ar_cons (ev_addT2 (ev_name tv.1 rfl) (ev_tuple (ar_cons (ev_int (i := 0)) ar_nil)) (by have := brow c hc; show c.1.length + 1 ≤ _; rw [sizeLine_eq]; omega)) (ar_cons (ev_name tv.2 rfl) ar_nil)) (show 2 ≤ sizeLine by decide)
  · intro hn he tk4 Jn stl ce Fe
    have Vc4 := stl.var ap (by decide) Jn
    rw [List.length_map, List.take_length] at Vc4
    exact ret_ev Fe (ev_name Vc4 rfl)
end
end Mine
namespace Mine
theorem app_ev {G : Gl} {A : Around} {s : Shared} {env : Env} {E : Value → Shared → Prop} {X : List Addr} {nm : Str} {e : Expr} {d : PyData} {D : Addr} {vd : List Value} {p1 p2 p6 pos : Pos} {rest : List Stmt} {Q : Flow → Shared → Prop}
    (hk : env.scope.kind = .function) (ln : Look env s.heap nm (.ref D)) (hv : Ev G A env s.heap X e d) (hd : s.heap.PlainList D (List.toArray vd)) (hsz : vd.length ≤ 100000)
    (cont : ∀ h2 h' tk v, Kp G.Bs s.heap h2 → Rp X h2 v d → Chg G.Bs env [] [D] h2 h' → h'.PlainList D (List.toArray (vd ++ [v])) → wpAny (model G.prog G.w) A (execs rest env) Q E { s with heap := h', toks := tk })
    (hline : (p2.endLine == p6.line) = true := by rfl) (hint : interactive env = false := by rfl) (hs : starEach [e] env = (false, eval e env) :: starEach [] env := by rfl)
    (hfew : ((backTo p6 (starEach [e] env)).all (fun x => !x.1) && (backToKw p6 (keywordEach [] env)).all (fun x => x.1.isSome) && decide ([e].length + ([] : List Keyword).length + (if ([] : List Keyword).isEmpty then 0 else 1) < 30)) = true := by rfl)
    (d1 : (nm == ("__debug__" : Str)) = false := by decide) :
    wpAny (model G.prog G.w) A (execs (.Expr (.Call (.Attribute (.Name nm p1) "append" p2) [e] [] p6) pos :: rest) env) Q E s := by
  refine wpAny_execs_cons (wpAny_Expr ?_ hint (by rfl))
  refine meth (evV_name ln hk d1) hd (ar_cons hv ar_nil hs) slot_list_append PySem.F.type_list_append (fun ws h2 tk2 k2 r => ?_) rfl hfew hline hs rfl
  obtain ⟨v, vs', rfl, r1, rl⟩ := r.cons_inv
  rw [rl.nil_inv]
  refine do_append (env := env) (k2.plain hd) (by rw [sizeLine_eq]; simp; omega) fun h3 pl3 ch => ?_
  exact cont h2 h3 tk2 v k2 r1 ch (by simpa using pl3)
/-- «x = []», a new list -/
theorem st_new {G : Gl} {A : Around} {s₀ : Shared} {env : Env} {h : Heap} {X : List Addr} {tk : Nat} {rest : List Stmt} {Q : Flow → Shared → Prop} {E : Value → Shared → Prop} {pos p pl : Pos} {x : Str} (F : Fn G s₀ env h) (hx : ∃ a, slotOf env x = some a) (hX : Al X h)
    (cont : ∀ D h' tk', h.get? D = none → s₀.heap.get? D = none → D ∉ X → Chg G.Bs env [x] [] h h' → Fn G s₀ env h' → Look env h' x (.ref D) → h'.PlainList D (List.toArray []) → Al (D :: X) h' → wpAny (model G.prog G.w) A (execs rest env) Q E { s₀ with heap := h', toks := tk' })
    (hs : swapsWith (.List [] pl) (some (.Name x p)) pos.line env = pure false := by rfl) : wpAny (model G.prog G.w) A (execs (.Assign [.Name x p] (.List [] pl) pos :: rest) env) Q E { s₀ with heap := h, toks := tk } := by
  refine st_set (R := fun h' v => ∃ D, v = .ref D ∧ h.get? D = none ∧ h'.PlainList D (List.toArray [])) F (fun s Q E k hQ => List_ (args_nil (wpAny_newObj_type ?_))) hx (fun v h₁ h' tk' k r u ch F' => ?_) hs
  · exact hQ _ _ s.toks (Kp.push _) ⟨_, rfl, none_of_kp k (none_ge (Nat.le_refl _)), ⟨_, Heap.get?_push_size _ rfl⟩⟩
  · obtain ⟨D, rfl, nD, pl⟩ := r
    have pl' : h'.PlainList D (List.toArray []) := (Chg.ofUpd (Bs := G.Bs) u).plain pl (fun q => nomatch q)
    exact cont D h' tk' nD (none_of_kp F.keep nD) (hX.outOf nD) ch F' u.self pl' (by obtain ⟨m, e⟩ := pl'; exact Al.cons e (ch.al hX))
theorem eqv_nil (l : List PyData) : PyData.eqv (.list l) (.list []) = l.isEmpty := by cases l <;> rfl
theorem tr_empty {G : Gl} {A : Around} {env : Env} {h₁ h₂ : Heap} {X : List Addr} {l : Expr} {pos p : Pos} {n : Nat} {ds : List PyData} (g : Go G n A h₂) (hX : Al X h₁) (hl : Ev G A env h₁ X l (.list ds)) : Tr G A env h₁ (.Compare l [.Eq] [.List [] p] pos) ds.isEmpty := by
  rw [← eqv_nil]
  refine tr_eq hl (ev_list hX ar_nil) ?_
  have := g.un
  have : min (PyData.list ds).depth (PyData.list []).depth ≤ 1 := Nat.min_le_right _ _
  show _ < 9900; omega
theorem tr_empty' {G : Gl} {A : Around} {env : Env} {h₁ h₂ : Heap} {X : List Addr} {l : Expr} {pos p : Pos} {n : Nat} {ds : List PyData} {b : Bool} (g : Go G n A h₂) (hX : Al X h₁) (hl : Ev G A env h₁ X l (.list ds)) (hb : b = ds.isEmpty) : Tr G A env h₁ (.Compare l [.Eq] [.List [] p] pos) b := hb ▸ tr_empty g hX hl
theorem tr_lt' {G : Gl} {A : Around} {env : Env} {h₁ : Heap} {X : List Addr} {l r : Expr} {pos : Pos} {a b : Int} {c : Bool} (hl : Ev G A env h₁ X l (.int a)) (hr : Ev G A env h₁ X r (.int b)) (hc : decide (a < b) = c) : Tr G A env h₁ (.Compare l [.Lt] [r] pos) c := hc ▸ tr_lt hl hr
/-- the words picked -/
def pickStep (least : Int) (ps : List Nat) (w : Nat) : List Nat := if (ps.filter fun o => decide ((pc (o ^^^ w) : Int) < least)).isEmpty then ps ++ [w] else ps
def pickF (least : Int) (ws : List Nat) : List Nat := ws.foldl (pickStep least) []
theorem pick_len (least : Int) (ws : List Nat) : (pickF least ws).length ≤ ws.length := by
  have : ∀ (ws ps : List Nat), (ws.foldl (pickStep least) ps).length ≤ ps.length + ws.length := by
    intro ws
    induction ws with
    | nil => intro ps; simp
    | cons w ws ih =>
      intro ps
      have := ih (pickStep least ps w)
      rw [List.foldl_cons]
      have h2 : (pickStep least ps w).length ≤ ps.length + 1 := by unfold pickStep; split <;> simp
      rw [List.length_cons]; omega
  have := this ws []
  simpa [pickF] using this
def dWords (ms : List Int) (ws : List Nat) : PyData := .list (ws.map fun w => dInts (wordOf ms w))
theorem g_picked (w : World) : nsIn (KH w) mainGlobals "_law_picked" = some (some (.ref 95)) := by rfl
section
variable {G : Gl} {A : Around} {h₁ : Heap} {X : List Addr} {k : Nat}
theorem picked_spec (W : Wd (KH G.w) G.Bs) (g : Go G (k + 3) A h₁) (hX : Al X h₁) {cs : List Card} {ms : List Int} {least : Int} (hm : Ms ms) (hc : cs.length ≤ 16) {v1 v2 : Value} (r1 : Rp X h₁ v1 (dCards ms cs)) (r2 : Rp X h₁ v2 (.int least)) :
    Does G A h₁ (call (.ref 95) [v1, v2]) (fun h v => Rp X h v (dWords ms (pickF least (cs.map (·.2))))) := by
  refine call_def ["listing", "least"] g W (W.K 95 _ rfl) rfl rfl rfl rfl rfl rfl rfl (by decide) rfl ?_
  intro s₀ h tk k₀ F P g'
  have kh := k₀.trans F.keep
  have hb : Kp G.Bs G.Bs s₀.heap := g.base.trans k₀
  have V1 : Var X _ h "listing" (dCards ms cs) := ⟨v1, P _ (.head _), r1.keep kh⟩
  have V2 : Var X _ h "least" (.int least) := ⟨v2, P _ (.tail _ (.head _)), r2.keep kh⟩
  have hXh := hX.keep kh
  have ap := F.ap
  refine st_new (X := X) F ⟨_, rfl⟩ hXh fun D h2 tk2 nD nDs DX c2 F2 vp2 p2 hX2 => ?_
  have V12 := c2.var ap (by decide) nosub (V1.fresh nD)
  have V22 := c2.var ap (by decide) nosub (V2.fresh nD)
  refine st_for (X := D :: X) (Y := [D]) (ds := cs.map (dCard ms)) ["row", "word"] F2 g'.hd hX2 (fun y m => by rw [List.mem_singleton.mp m]; exact List.mem_cons_self) (fun y m => by rw [List.mem_singleton.mp m]; exact nDs) (it_list g'.hd (ev_name V12 rfl)) (fun x hx => ?_)
    (fun d hd => by obtain ⟨c, _, rfl⟩ := List.mem_map.mp hd; exact show ("row" : Str) ≠ "word" by decide)
    (fun i h => Look _ h "picked" (.ref D) ∧ Var (D :: X) _ h "least" (.int least) ∧ ∃ vs, h.PlainList D (List.toArray vs) ∧ RpL (D :: X) h vs ((pickF least ((cs.take i).map (·.2))).map fun w => dInts (wordOf ms w))) ⟨vp2, V22, [], p2, RpL.nil⟩ ?_ ?_
  · rcases List.mem_cons.mp hx with rfl | hx
    · exact ⟨by decide, _, rfl⟩
    · rw [List.mem_singleton.mp hx]; exact ⟨by decide, _, rfl⟩
  · intro i d hi hc' tk3 E' ed Ji stl Fc alc tv
    rw [List.getElem?_map] at ed
    obtain ⟨c, ec, rfl⟩ := Option.map_eq_some_iff.mp ed
    obtain ⟨lp, vl, vs, pl, rl⟩ := Ji
    have lp3 := stl.look ap (by decide) lp
    have vl3 := stl.var ap (by decide) vl
    have pl3 := stl.plain pl
    have rl3 := stl.rpL rl
    have vw : Var (D :: X) _ hc' "word" (dInts (wordOf ms c.2)) := tv.2
    have gc := g.at k₀ Fc
    have nx : pickF least ((cs.take (i + 1)).map (·.2)) = pickStep least (pickF least ((cs.take i).map (·.2))) c.2 := by
      rw [List.take_add_one, ec]; simp [pickF, List.foldl_append]
    have bl : (pickF least ((cs.take i).map (·.2))).length ≤ 16 := by
      have := pick_len least ((cs.take i).map (·.2))
      rw [List.length_map, List.length_take] at this; omega
    generalize hps : pickF least ((cs.take i).map (·.2)) = ps at *
    have Vp : Var X _ hc' "picked" (dWords ms ps) := ⟨_, lp3, Rp.list pl3.isList DX rl3.tail⟩
    refine st_if (b := (ps.filter fun o => decide ((pc (o ^^^ c.2) : Int) < least)).isEmpty) Fc (tr_empty' (X := X) gc (fun a m => alc a (List.mem_cons_of_mem _ m)) (ev_comp' (xs := ps) (enc := fun w => dInts (wordOf ms w)) (fun o => decide ((pc (o ^^^ c.2) : Int) < least)) (fun w => dInts (wordOf ms w)) (Block.locals rfl rfl (by decide) (by decide)) g'.hd (fun a m => alc a (List.mem_cons_of_mem _ m)) (it_list g'.hd (ev_name Vp rfl)) (by rw [sizeLine_eq]; omega) ?_ rfl) (by simp)) fun h4 tk4 k4 F4 => ?_
    · intro o ho
      refine ⟨trivial, fun C D' h' kp nD' nC al tv => ?_, fun C D' h' hp kp nD' nC al tv => ev_name tv rfl⟩
      have gh := gc.later kp
      refine tr_lt' (ev_len W gh.base (g_len _) (ev_apart W gh al (ev_name tv rfl) (ev_name ((vw.tail.fresh nD').keep kp).inner rfl) (wordOf_up hm _) (wordOf_up hm _) (by rw [wordOf_len]; have := pc_le o; omega) (by rw [wordOf_len]; have := pc_le c.2; omega)) (by rw [List.length_map, apart_len hm]; have := pc_le (o ^^^ c.2); omega)) (ev_name ((vl3.tail.fresh nD').keep kp).inner rfl) (by rw [List.length_map, apart_len hm])
    have stepD := c.2
    by_cases q : (ps.filter fun o => decide ((pc (o ^^^ c.2) : Int) < least)).isEmpty = true
    · rw [if_pos q]
      have nx' : pickF least ((cs.take (i + 1)).map (·.2)) = ps ++ [c.2] := by rw [nx, pickStep, if_pos q]
      refine app_ev F4.kind (lp3.keep k4) (ev_name (vw.keep k4) rfl) (k4.plain pl3) (by have := rl3.length; rw [List.length_map] at this; omega) fun h5 h6 tk6 v k5 rv ch pl6 => ?_
      have k45 := k4.trans k5
      have chc : Chg G.Bs _ ["row", "word"] [D] hc' h6 := ((Chg.ofKp k45).trans ch).sub (fun _ q => nomatch q) (fun _ q => q)
      refine wpAny_execs_nil (wpAny_execs_nil ⟨h6, tk6, rfl, chc, chc.look ap (by decide) lp3, chc.var ap (by decide) (fun y m => by rw [List.mem_singleton.mp m]; exact List.mem_cons_self) vl3, vs ++ [v], pl6, ?_⟩)
      rw [nx', List.map_append]
      have sD : Stays (D :: X) h5 h6 := ch.stays fun y m => by rw [List.mem_singleton.mp m]; exact List.mem_cons_self
      exact RpL.append ((rl3.keep k45).stays sD) (RpL.cons (rv.stays sD) RpL.nil)
    · rw [if_neg q]
      have nx' : pickF least ((cs.take (i + 1)).map (·.2)) = ps := by rw [nx, pickStep, if_neg q]
      refine wpAny_execs_nil (wpAny_execs_nil ⟨h4, tk4, rfl, (Chg.ofKp k4).sub (fun _ q => nomatch q) (fun _ q => nomatch q), lp3.keep k4, vl3.keep k4, vs, k4.plain pl3, ?_⟩)
      rw [nx']; exact rl3.keep k4
  · intro hn he tk4 Jn stl ce Fe
    obtain ⟨lp, vl, vs, pl, rl⟩ := Jn
    rw [List.length_map, List.take_length] at rl
    exact ret_ev Fe (ev_name ⟨_, stl.look ap (by decide) lp, Rp.list (stl.plain pl).isList DX (stl.rpL rl).tail⟩ rfl)
end
end Mine
namespace Mine
theorem xor_add_and : ∀ (a b : Nat), (a ^^^ b) + 2 * (a &&& b) = a + b := by
  intro a
  induction a using Nat.strongRecOn with
  | _ a ih =>
    intro b
    by_cases h0 : a = 0
    · subst h0; simp
    · have h := ih (a / 2) (by omega) (b / 2)
      have e1 : (a ^^^ b) / 2 = a / 2 ^^^ b / 2 := Nat.xor_div_two
      have e2 : (a &&& b) / 2 = a / 2 &&& b / 2 := Nat.and_div_two
      have m1 : (a ^^^ b) % 2 = 1 ↔ ¬ (a % 2 = 1 ↔ b % 2 = 1) := Nat.xor_mod_two_eq_one
      have m2 : (a &&& b) % 2 = 1 ↔ a % 2 = 1 ∧ b % 2 = 1 := Nat.and_mod_two_eq_one
      rw [← e1, ← e2] at h
      generalize (a ^^^ b) = x at *
      generalize (a &&& b) = y at *
      clear e1 e2 ih
      by_cases p : a % 2 = 1 <;> by_cases q : b % 2 = 1 <;> by_cases u : x % 2 = 1 <;> by_cases v : y % 2 = 1 <;> first | omega | (exfalso; simp_all)
theorem bitXor_nat (a b : Nat) : Builtin.bitXor (a : Int) (b : Int) = ((a ^^^ b : Nat) : Int) := by
  rw [bitXor_and, bitAnd_pp (by omega) (by omega)]
  have := xor_add_and a b
  have e1 : (a : Int).toNat = a := by omega
  have e2 : (b : Int).toNat = b := by omega
  rw [e1, e2]; omega
/-! ranks and words of the rows -/
def fig (r c : Nat) : Nat := r / 2 ^ c % 2
def rankF (ps : List (Nat × Int)) (r : Nat) : Int := ps.foldl (fun k p => 2 * k + p.2 * fig r p.1) 0
def wordF (as : List Nat) (ps : List (Nat × Int)) (r : Nat) : Nat := ps.foldl (fun w p => w ^^^ (fig r p.1 * as.getD p.1 0)) 0
theorem fig_cast (r c : Nat) : (((r : Int).fdiv (2 ^ c)).fmod 2) = ((fig r c : Nat) : Int) := by
  have e1 : ((r : Int).fdiv (2 ^ c)) = ((r / 2 ^ c : Nat) : Int) := by
    have h2 : (2 : Int) ^ c = ((2 ^ c : Nat) : Int) := by simp
    rw [h2, Int.fdiv_eq_ediv_of_nonneg _ (Int.natCast_nonneg _), Int.natCast_ediv]
  rw [e1, Int.fmod_eq_emod_of_nonneg _ (by decide)]
  unfold fig; omega
theorem fig_le (r c : Nat) : fig r c ≤ 1 := by unfold fig; omega
theorem mul_ok_left {a b : Int} (h : a.natAbs < 2 ^ 64) : IntMulOk a b := IntMulOk.of_left (intBits_le_64 (by omega) (by omega))
theorem mul_ok_right {a b : Int} (h : b.natAbs < 2 ^ 64) : IntMulOk a b := IntMulOk.of_right (intBits_le_64 (by omega) (by omega))
end Mine
namespace Mine
theorem g_ranked (w : World) : nsIn (KH w) mainGlobals "_law_ranked" = some (some (.ref 102)) := by rfl
def dNats (as : List Nat) : PyData := .list (as.map fun a => .int (a : Nat))
def dPick (p : Nat × Int) : PyData := .tuple [.int (p.1 : Nat), .int p.2]
def dPicks (ps : List (Nat × Int)) : PyData := .list (ps.map dPick)
def dRank (p : Int × Nat) : PyData := .tuple [.int p.1, .int (p.2 : Nat)]
def dRanked (ps : List (Int × Nat)) : PyData := .list (ps.map dRank)
def rankedF (as : List Nat) (ps : List (Nat × Int)) : List (Int × Nat) := (List.range (2 ^ as.length)).map fun r => (rankF ps r, wordF as ps r)
theorem ev_is {G : Gl} {A : Around} {env : Env} {h₁ : Heap} {X : List Addr} {e : Expr} {d d' : PyData} (h : Ev G A env h₁ X e d) (hd : d = d') : Ev G A env h₁ X e d' := hd ▸ h
section
variable {G : Gl} {A : Around} {h₁ : Heap} {X : List Addr} {k : Nat}
theorem ranked_spec (W : Wd (KH G.w) G.Bs) (g : Go G (k + 2) A h₁) (hX : Al X h₁) {as : List Nat} {ps : List (Nat × Int)} (ha : as.length ≤ 4) (hp : ps.length ≤ 4) (hps : ∀ p ∈ ps, p.1 < as.length ∧ p.2.natAbs ≤ 1) {v1 v2 : Value} (r1 : Rp X h₁ v1 (dNats as)) (r2 : Rp X h₁ v2 (dPicks ps)) :
    Does G A h₁ (call (.ref 102) [v1, v2]) (fun h v => Rp X h v (dRanked (rankedF as ps))) := by
  refine call_def ["numbers", "picks"] g W (W.K 102 _ rfl) rfl rfl rfl rfl rfl rfl rfl (by decide) rfl ?_
  intro s₀ h tk k₀ F P g'
  have kh := k₀.trans F.keep
  have hb : Kp G.Bs G.Bs s₀.heap := g.base.trans k₀
  have V1 : Var X _ h "numbers" (dNats as) := ⟨v1, P _ (.head _), r1.keep kh⟩
  have V2 : Var X _ h "picks" (dPicks ps) := ⟨v2, P _ (.tail _ (.head _)), r2.keep kh⟩
  have hXh := hX.keep kh
  have ap := F.ap
  refine st_new (X := X) F ⟨_, rfl⟩ hXh fun D h2 tk2 nD nDs DX c2 F2 vp2 p2 hX2 => ?_
  have V12 := c2.var ap (by decide) nosub (V1.fresh nD)
  have V22 := c2.var ap (by decide) nosub (V2.fresh nD)
  have b16 : 2 ^ as.length ≤ 16 := Nat.le_trans (Nat.pow_le_pow_right (by decide) ha) (by decide)
  have g2 := g.at k₀ F2
  have DD : ∀ y ∈ [D], y ∈ D :: X := fun y m => by rw [List.mem_singleton.mp m]; exact List.mem_cons_self
  refine st_for (X := D :: X) (Y := [D]) (ds := upto (2 ^ as.length)) ["r", "rank", "word", "c", "way", "figure"] F2 g'.hd hX2 DD (fun y m => by rw [List.mem_singleton.mp m]; exact nDs)
    (it_range W g'.hd g2.base (g_range _) (ev_is (ev_pow ev_int (ev_len W g2.base (g_len _) (ev_name V12 rfl) (by rw [List.length_map]; omega)) (by omega) (by rw [List.length_map]; omega) (by decide)) (by rw [List.length_map]; simp)) (by omega)) (fun x hx => ?_) (fun _ _ => trivial)
    (fun i h => Look _ h "ranked" (.ref D) ∧ Var (D :: X) _ h "numbers" (dNats as) ∧ Var (D :: X) _ h "picks" (dPicks ps) ∧ ∃ vs, h.PlainList D (List.toArray vs) ∧ RpL (D :: X) h vs (((List.range i).map fun r => (rankF ps r, wordF as ps r)).map dRank)) ⟨vp2, V12, V22, [], p2, RpL.nil⟩ ?_ ?_
  · rw [List.mem_singleton.mp hx]; exact ⟨by decide, _, rfl⟩
  · intro r d hi hc tk3 E' ed Ji stl Fc alc tv
    have hr : r < 2 ^ as.length := by have := (List.getElem?_eq_some_iff.mp ed).1; simpa [upto] using this
    have ed' : d = .int (r : Nat) := by
      have : (upto (2 ^ as.length))[r]? = some (.int (r : Nat)) := by simp [upto, hr]
      rw [this] at ed; cases ed; rfl
    subst ed'
    obtain ⟨lp, vn, vk, vs, pl, rl⟩ := Ji
    have Vr : Var (D :: X) _ hc "r" (.int (r : Nat)) := tv
    refine st_let (X := D :: X) Fc (ev_int (i := 0)) ⟨_, rfl⟩ fun h4 tk4 c4 F4 Vk4 => ?_
    refine st_let (X := D :: X) F4 (ev_int (i := 0)) ⟨_, rfl⟩ fun h5 tk5 c5 F5 Vw5 => ?_
    have c45 := c4.trans c5
    have lp5 := c45.look ap (by decide) (stl.look ap (by decide) lp)
    have vn5 := c45.var ap (by decide) nosub (stl.var ap (by decide) vn)
    have vk5 := c45.var ap (by decide) nosub (stl.var ap (by decide) vk)
    have vr5 := c45.var ap (by decide) nosub Vr
    have pl5 := c45.plain (stl.plain pl) (fun q => nomatch q)
    have rl5 := c45.rpL (stl.rpL rl)
    have al5 := c45.al alc
    have vk0 := c5.var ap (by decide) nosub Vk4
    refine st_for (X := D :: X) (Y := []) (ds := ps.map dPick) ["c", "way", "figure", "rank", "word"] F5 g'.hd al5 nosub (fun _ q => nomatch q) (it_list g'.hd (ev_name vk5 rfl)) (fun x hx => ?_)
      (fun d hd => by obtain ⟨c, _, rfl⟩ := List.mem_map.mp hd; exact show ("c" : Str) ≠ "way" by decide)
      (fun j h => Var (D :: X) _ h "numbers" (dNats as) ∧ Var (D :: X) _ h "r" (.int (r : Nat)) ∧ Var (D :: X) _ h "rank" (.int (rankF (ps.take j) r)) ∧ Var (D :: X) _ h "word" (.int (wordF as (ps.take j) r : Nat))) ⟨vn5, vr5, vk0, Vw5⟩ ?_ ?_
    · rcases List.mem_cons.mp hx with rfl | hx
      · exact ⟨by decide, _, rfl⟩
      · rw [List.mem_singleton.mp hx]; exact ⟨by decide, _, rfl⟩
    · intro j d hi' hc' tk6 E'' ed' Jj stl' Fc' alc' tv'
      rw [List.getElem?_map] at ed'
      obtain ⟨p, ep, rfl⟩ := Option.map_eq_some_iff.mp ed'
      obtain ⟨pa, pw⟩ := hps p (List.mem_of_getElem? ep)
      obtain ⟨wn, wr, wk, ww⟩ := Jj
      have wn6 := stl'.var ap (by decide) wn
      have wr6 := stl'.var ap (by decide) wr
      have wk6 := stl'.var ap (by decide) wk
      have ww6 := stl'.var ap (by decide) ww
      have vc : Var (D :: X) _ hc' "c" (.int (p.1 : Nat)) := tv'.1
      have vw : Var (D :: X) _ hc' "way" (.int p.2) := tv'.2
      have nk : rankF (ps.take (j + 1)) r = 2 * rankF (ps.take j) r + p.2 * fig r p.1 := by
        rw [List.take_add_one, ep]; simp [rankF, List.foldl_append]
      have nw : wordF as (ps.take (j + 1)) r = wordF as (ps.take j) r ^^^ (fig r p.1 * as.getD p.1 0) := by
        rw [List.take_add_one, ep]; simp [wordF, List.foldl_append]
      have fl := fig_le r p.1
      refine st_let (X := D :: X) (d := .int (fig r p.1 : Nat)) Fc' (ev_is (ev_mod (ev_fdiv (ev_name wr6 rfl) (ev_pow ev_int (ev_name vc rfl) (by omega) (by omega) (by decide)) (two_pow_ne _) (pylong_small (two_pow_abs (by omega)))) ev_int (by decide)) (by rw [← fig_cast]; simp)) ⟨_, rfl⟩ fun h7 tk7 c7 F7 vf7 => ?_
      have wk7 := c7.var ap (by decide) nosub wk6
      have vw7 := c7.var ap (by decide) nosub vw
      refine st_let (X := D :: X) F7 (ev_add (ev_mul ev_int (ev_name wk7 rfl) (mul_ok_left (by decide))) (ev_mul (ev_name vw7 rfl) (ev_name vf7 rfl) (mul_ok_left (by omega)))) ⟨_, rfl⟩ fun h8 tk8 c8 F8 vk8 => ?_
      have c78 := c7.trans c8
      have vf8 := c8.var ap (by decide) nosub vf7
      have vc8 := c78.var ap (by decide) nosub vc
      have vn8 := c78.var ap (by decide) nosub wn6
      have ww8 := c78.var ap (by decide) nosub ww6
      have ga : as[p.1]? = some (as.getD p.1 0) := by rw [List.getD_eq_getElem?_getD, List.getElem?_eq_getElem pa]; rfl
      refine st_let (X := D :: X) (d := .int (wordF as (ps.take (j + 1)) r : Nat)) F8 (ev_is (ev_xor (ev_name ww8 rfl) (ev_mul (ev_name vf8 rfl) (ev_item (d := .int (as.getD p.1 0 : Nat)) (ev_name vn8 rfl) (ev_name vc8 rfl) (by omega) (by omega) (by rw [Int.toNat_natCast, List.getElem?_map, ga]; rfl)) (mul_ok_left (by omega)))) (by rw [nw, ← bitXor_nat, Int.natCast_mul])) ⟨_, rfl⟩ fun h9 tk9 c9 F9 vw9 => ?_
      have c79 := c78.trans c9
      refine wpAny_execs_nil ⟨h9, tk9, rfl, c79.sub (by decide) (fun _ q => nomatch q), c79.var ap (by decide) nosub wn6, c79.var ap (by decide) nosub wr6, ?_, vw9⟩
      rw [nk]; exact c9.var ap (by decide) nosub vk8
    · intro hn he tk10 Jn stl' ce Fe
      obtain ⟨wn, wr, wk, ww⟩ := Jn
      rw [List.length_map, List.take_length] at wk ww
      have wk6 := stl'.var ap (by decide) wk
      have ww6 := stl'.var ap (by decide) ww
      have lp6 := ce.look ap (by decide) lp5
      have pl6 := ce.plain pl5 (fun q => nomatch q)
      have rl6 := ce.rpL rl5
      refine app_ev Fe.kind lp6 (ev_tuple (ar_cons (ev_name wk6 rfl) (ar_cons (ev_name ww6 rfl) ar_nil)) (show 2 ≤ sizeLine by decide)) pl6 (by have := rl6.length; simp at this; omega) fun h11 h12 tk12 v k11 rv ch pl12 => ?_
      have ch0 := (c45.trans ce).trans ((Chg.ofKp k11).trans ch)
      refine wpAny_execs_nil ⟨h12, tk12, rfl, ch0.sub (by decide) (by intro y m; simpa using m), ch0.look ap (by decide) (stl.look ap (by decide) lp), ch0.var ap (by decide) (by intro y m; exact DD y (by simpa using m)) (stl.var ap (by decide) vn), ch0.var ap (by decide) (by intro y m; exact DD y (by simpa using m)) (stl.var ap (by decide) vk), vs ++ [v], pl12, ?_⟩
      rw [List.range_succ, List.map_append, List.map_append]
      exact RpL.append ((rl6.keep k11).stays (ch.stays DD)) (RpL.cons (rv.stays (ch.stays DD)) RpL.nil)
  · intro hn he tk4 Jn stl ce Fe
    obtain ⟨lp, vn, vk, vs, pl, rl⟩ := Jn
    rw [show (upto (2 ^ as.length)).length = 2 ^ as.length by simp [upto]] at rl
    exact ret_ev Fe (ev_name ⟨_, stl.look ap (by decide) lp, Rp.list (stl.plain pl).isList DX (stl.rpL rl).tail⟩ rfl)
end
end Mine
namespace Mine
theorem g_doubled (w : World) : nsIn (KH w) mainGlobals "_law_doubled" = some (some (.ref 112)) := by rfl
theorem tr_neSame {G : Gl} {A : Around} {env : Env} {h₁ h₂ : Heap} {X : List Addr} {l r : Expr} {pos : Pos} {n : Nat} {d : PyData} (g : Go G n A h₂) (hl : Ev G A env h₁ X l d) (hr : Ev G A env h₁ X r d) (hd : d.depth ≤ 64) (hc : d.canLay0 = true) :
    Tr G A env h₁ (.Compare l [.NotEq] [r] pos) false := by
  have := tr_ne (pos := pos) hl hr (room g hd)
  rw [SeqAt.eqv_refl d hc] at this
  exact this
theorem words_depth {α : Type} (f : α → List Int) (l : List α) : PyData.depth (.list (l.map fun w => dInts (f w))) ≤ 64 := by
  have : PyData.depthAll (l.map fun w => dInts (f w)) ≤ 1 := by
    induction l with
    | nil => exact Nat.zero_le _
    | cons a l ih =>
      show max (dInts (f a)).depth (PyData.depthAll (l.map fun w => dInts (f w))) ≤ 1
      rw [depth_dInts]; omega
  show PyData.depthAll _ + 1 ≤ 64
  omega
theorem words_lay {α : Type} (f : α → List Int) (l : List α) : PyData.canLay0 (.list (l.map fun w => dInts (f w))) = true := by
  show PyData.canLayAll0 _ = true
  induction l with
  | nil => rfl
  | cons a l ih =>
    rw [List.map_cons, PyData.canLayAll0, ih, show PyData.canLay0 (dInts (f a)) = true from canLayI _]; rfl
/-- each time the later half is the former, moved -/
def Doubles (ws : List Nat) : Prop := ∀ i, 2 ^ i < ws.length → (ws.take (2 ^ i)).map (fun o => (ws.getD 0 0 ^^^ ws.getD (2 ^ i) 0) ^^^ o) = (ws.drop (2 ^ i)).take (2 ^ i)
section
variable {G : Gl} {A : Around} {h₁ : Heap} {X : List Addr} {k : Nat}
theorem doubled_spec (W : Wd (KH G.w) G.Bs) (g : Go G (k + 3) A h₁) (hX : Al X h₁) {ws : List Nat} {ms : List Int} (hm : Ms ms) (hl : ws.length ≤ 16) (hd : Doubles ws) {v1 : Value} (r1 : Rp X h₁ v1 (dWords ms ws)) :
    Does G A h₁ (call (.ref 112) [v1]) (fun h v => Rp X h v (.bool true)) := by
  refine call_def ["picked"] g W (W.K 112 _ rfl) rfl rfl rfl rfl rfl rfl rfl (by decide) rfl ?_
  intro s₀ h tk k₀ F P g'
  have kh := k₀.trans F.keep
  have hb : Kp G.Bs G.Bs s₀.heap := g.base.trans k₀
  have V1 : Var X _ h "picked" (dWords ms ws) := ⟨v1, P _ (.head _), r1.keep kh⟩
  have hXh := hX.keep kh
  have ap := F.ap
  refine st_let (X := X) F (ev_int (i := 1)) ⟨_, rfl⟩ fun h2 tk2 c2 F2 Vs2 => ?_
  have V12 := c2.var ap (by decide) nosub V1
  refine st_while F2 (fun n h => Al X h ∧ Var X _ h "picked" (dWords ms ws) ∧ ∃ i, Var X _ h "size" (.int ((2 ^ i : Nat) : Int)) ∧ n = ws.length + 1 - 2 ^ i) _ ⟨c2.al hXh, V12, 0, Vs2, rfl⟩ ?_
  rintro n hc E' ⟨al, vp, i, vs, rfl⟩ Fc
  have gc := g.at k₀ Fc
  refine ⟨decide (2 ^ i < ws.length), tr_lt' (ev_name vs rfl) (ev_len W gc.base (g_len _) (ev_name vp rfl) (by rw [List.length_map]; omega)) (by rw [List.length_map]; exact decide_eq_decide.mpr (by omega)), fun hlt h3 tk3 k3 F3 => ?_, fun _ h3 tk3 k3 F3 => ret_ev F3 ev_bool⟩
  have hlt := of_decide_eq_true hlt
  have g3 := g.at k₀ F3
  have vp3 := vp.keep k3
  have vs3 := vs.keep k3
  have al3 := al.keep k3
  have ipos : 0 < 2 ^ i := Nat.pos_of_ne_zero (by simp)
  have e0 : ws[0]? = some (ws.getD 0 0) := by rw [List.getD_eq_getElem?_getD, List.getElem?_eq_getElem (by omega)]; rfl
  have e1 : ws[2 ^ i]? = some (ws.getD (2 ^ i) 0) := by rw [List.getD_eq_getElem?_getD, List.getElem?_eq_getElem hlt]; rfl
  generalize hs : 2 ^ i = s at *
  have hdi := hd i (by rw [hs]; exact hlt)
  rw [hs] at hdi
  have pl : ∀ x, (wordOf ms x).length ≤ 1000 := fun x => by rw [wordOf_len]; have := pc_le x; omega
  refine st_let (X := X) (d := dInts (wordOf ms (ws.getD 0 0 ^^^ ws.getD s 0))) F3 (ev_sorted W g3.base (g_sorted _) al3 (ev_apart W g3 al3
      (ev_item (d := dInts (wordOf ms (ws.getD 0 0))) (ev_name vp3 rfl) (ev_int (i := 0)) (by decide) (by decide) (by rw [show (0 : Int).toNat = 0 from rfl, List.getElem?_map, e0]; rfl))
      (ev_item (d := dInts (wordOf ms (ws.getD s 0))) (ev_name vp3 rfl) (ev_name vs3 rfl) (by omega) (by omega) (by rw [Int.toNat_natCast, List.getElem?_map, e1]; rfl)) (wordOf_up hm _) (wordOf_up hm _) (pl _) (pl _))
      (by rw [apart_len hm]; have := pc_le (ws.getD 0 0 ^^^ ws.getD s 0); omega) (apart_word hm _ _) (wordOf_up hm _)) ⟨_, rfl⟩ fun h4 tk4 c4 F4 vt4 => ?_
  generalize ws.getD 0 0 ^^^ ws.getD s 0 = t at *
  have g4 := g.at k₀ F4
  have vp4 := c4.var ap (by decide) nosub vp3
  have vs4 := c4.var ap (by decide) nosub vs3
  have al4 := c4.al al3
  refine st_if (b := false) F4 (tr_neSame (X := X) (d := .list ((ws.take s).map fun o => dInts (wordOf ms (t ^^^ o)))) g4 ?_ ?_ (words_depth (fun o => wordOf ms (t ^^^ o)) _) (words_lay (fun o => wordOf ms (t ^^^ o)) _)) fun h5 tk5 k5 F5 => ?_
  · refine ev_comp' (xs := ws.take s) (enc := fun w => dInts (wordOf ms w)) (fun _ => true) (fun o => dInts (wordOf ms (t ^^^ o))) (Block.locals rfl rfl (by decide) (by decide)) g'.hd al4 (it_list g'.hd (ev_is (ev_slice al4 (ev_name vp4 rfl) pt_none (pt_some (ev_name vs4 rfl)) (pick_upto s) (by rw [List.length_map, sizeLine_eq]; omega)) (by rw [List.map_take]))) (by rw [List.length_take, sizeLine_eq]; omega) ?_ (by rw [filt_true])
    intro o ho
    refine ⟨trivial, fun C D h' kp nD nC al tv => rfl, fun C D h' hp kp nD nC al tv => ?_⟩
    have gh := g4.later kp
    exact ev_sorted W gh.base (g_sorted _) al (ev_apart W gh al (ev_name ((vt4.fresh nD).keep kp).inner rfl) (ev_name tv rfl) (wordOf_up hm _) (wordOf_up hm _) (pl _) (pl _)) (by rw [apart_len hm]; have := pc_le (t ^^^ o); omega) (apart_word hm _ _) (wordOf_up hm _)
  · refine ev_is (ev_slice (lo := some (s : Nat)) (hi := some ((2 * s : Nat) : Int)) al4 (ev_name vp4 rfl) (pt_some (ev_name vs4 rfl)) (pt_some (ev_is (ev_mul ev_int (ev_name vs4 rfl) (mul_ok_left (by decide))) (by rw [Int.natCast_mul]; rfl))) pick_run (by rw [List.length_map, sizeLine_eq]; omega)) ?_
    rw [show 2 * s - s = s by omega, ← List.map_drop, ← List.map_take, ← hdi, List.map_map]; rfl
  · rw [if_neg (by decide)]
    have c45 := c4.trans (Chg.ofKp k5)
    have vs5 := vs4.keep k5
    refine wpAny_execs_nil ?_
    refine st_let (X := X) (d := .int ((2 ^ (i + 1) : Nat) : Int)) F5 (ev_is (ev_mul ev_int (ev_name vs5 rfl) (mul_ok_left (by decide))) (by rw [Nat.pow_succ, hs, Int.natCast_mul, Int.mul_comm]; rfl)) ⟨_, rfl⟩ fun h6 tk6 c6 F6 vs6 => ?_
    have c46 := c45.trans c6
    exact wpAny_execs_nil ⟨ws.length + 1 - 2 ^ (i + 1), h6, tk6, by rw [Nat.pow_succ, hs]; omega, rfl, ⟨c46.al al3, c46.var ap (by decide) nosub vp3, i + 1, vs6, rfl⟩, F6⟩
end
end Mine
namespace Mine
/-- the tree of asks, answered; none where an index is out of bounds -/
def runB {α : Type} (n : Nat) (ask : Nat → Nat → Bool) : KasT α → Option α
  | .ret a => some a
  | .ask i j k => if i < n ∧ j < n then runB n ask (k (ask i j)) else none
theorem kasWp_run {α : Type} {n : Nat} {ask : Nat → Nat → Bool} {cmp : Nat → Nat → (Bool → Shared → Prop) → Shared → Prop} {s : Shared} (hc : ∀ i j C, i < n → j < n → C (ask i j) s → cmp i j C s) {Q : α → Shared → Prop} {p : α} : ∀ (t : KasT α), runB n ask t = some p → Q p s → t.kasWp cmp Q s
  | .ret a, e, h => by cases e; exact h
  | .ask i j k, e, h => by
    unfold runB at e
    split at e
    · rename_i hij
      exact hc i j _ hij.1 hij.2 (kasWp_run hc (k (ask i j)) e h)
    · cases e
section
variable {prog : Program} {w : World} {A : Around} {E : Value → Shared → Prop} {s : Shared}
def heap6 (h : Heap) (a : Addr) (vs : List Value) : Heap := ((h.update a (Obj.mapSeq fun _ => (#[] : Array Value))).push (seqObj "tuple" vs.toArray 0)).push (seqObj "list" #[] 0)
theorem sort_asks {a : Addr} {vs : List Value} {n : Nat} {κ : SortKind} {ask : Nat → Nat → Bool} {p : Array Nat} {P : PySem.Fin → Shared → Prop} (ho : s.heap.get? a = some (seqObj "list" vs.toArray n)) (h2 : 2 ≤ vs.length) (h64 : vs.length < 64)
    (hk : ∀ (Q : SortKind → Shared → Prop) E, Q κ { s with heap := heap6 s.heap a vs } → wpAny (model prog w) A (keyKind' vs.toArray) Q E { s with heap := heap6 s.heap a vs })
    (hc : ∀ i j (C : Bool → Shared → Prop), i < vs.length → j < vs.length → C (ask i j) { s with heap := heap6 s.heap a vs } → wpAny (model prog w) A (keyLt' κ (vs.getD i .none) (vs.getD j .none)) C (fun _ _ => False) { s with heap := heap6 s.heap a vs })
    (hr : runB vs.length ask (kas_sort vs.length) = some p)
    (h : p.size = vs.length → P (.done (.ret .none)) { s with heap := sortedHeap s.heap a vs (List.toArray (p.toList.map fun i => vs.getD i .none)) }) :
    wpAny (model prog w) A (Builtin.«list.sort» ⟨[.ref a], []⟩) P E s := by
  have ha : a < s.heap.objs.size := Heap.lt_size ho
  rw [list_sort_plain]
  refine wpAny_bind (listItems_at ho rfl ?_)
  refine wpAny_bind (listUpdate_at ho rfl ?_ (by rw [List.size_toArray, sizeLine_eq]; omega) (Nat.zero_le _))
  obtain ⟨e1, ho1⟩ : ∃ e1, (s.heap.update a (Obj.mapSeq fun _ => (#[] : Array Value))).get? a = some (seqObj "list" #[] e1) := ⟨_, get?_update_seq ho fun _ => #[]⟩
  refine wpAny_bind (seqEpoch_at ho1 rfl ?_)
  refine wpAny_bind (wpAny_newTuple ?_ (by show vs.length ≤ _; rw [sizeLine_eq]; omega))
  refine wpAny_bind (wpAny_newList ?_ (Nat.zero_le _))
  refine wpAny_holding ?_
  show wpAny (model prog w) A _ P E { s with heap := heap6 s.heap a vs }
  have ho6 : (heap6 s.heap a vs).get? a = some (seqObj "list" #[] e1) := Heap.get?_push_of_some _ (Heap.get?_push_of_some _ ho1)
  dsimp only
  have hn2 : ¬ vs.toArray.size < 2 := by rw [List.size_toArray]; omega
  rw [if_neg hn2, if_neg hn2]
  refine wpAny_bind (hk _ _ ?_)
  refine wpAny_bind (wpAny_mono (kat_run (Q := fun st' s' => s' = { s with heap := heap6 s.heap a vs } ∧ p.size = vs.length ∧ arrOf st' = p.map (kas_item (vs.toArray.zip vs.toArray)) ∧ failedOf st' = none) (G := fun p' s' => p' = p ∧ s' = { s with heap := heap6 s.heap a vs })
    rfl h2 h64 (fun p' st' s' a1 a2 a3 a4 => by obtain ⟨rfl, rfl⟩ := a4; exact ⟨rfl, a1, a2, a3⟩) (kasWp_run (fun i j C hi hj hC => hc i j C hi hj hC) _ hr ⟨rfl, rfl⟩)) ?_ fun _ _ e => e)
  rintro ⟨⟨⟩, st'⟩ s' ⟨rfl, hp, har, hf⟩
  dsimp only
  have hout := kat_snds rfl har
  have hsz : (List.toArray (p.toList.map fun i => vs.getD i Value.none)).size = vs.length := by rw [List.size_toArray, List.length_map, Array.length_toList, hp]
  rw [hout]
  refine wpAny_bind (seqEpoch_at ho6 rfl ?_)
  refine wpAny_bind (listUpdate_at ho6 rfl ?_ (Nat.zero_le _) (Nat.le_trans (Nat.le_of_eq hsz) (by rw [sizeLine_eq]; omega)))
  rw [hf]
  simp only [bne_self_eq_false, Bool.false_eq_true, if_false]
  exact wpAny_pure (h hp)
theorem sorted_asks {l : Addr} {vs : List Value} {κ : SortKind} {ask : Nat → Nat → Bool} {p : Array Nat} {Q : Value → Shared → Prop} (hl : s.heap.IsList l vs.toArray) (h2 : 2 ≤ vs.length) (h64 : vs.length < 64)
    (hk : ∀ h' (A : Around) (Q : SortKind → Shared → Prop) E, (∀ b o, s.heap.get? b = some o → h'.get? b = some o) → Q κ { s with heap := h' } → wpAny (model prog w) A (keyKind' vs.toArray) Q E { s with heap := h' })
    (hc : ∀ h' (A : Around) i j (C : Bool → Shared → Prop), (∀ b o, s.heap.get? b = some o → h'.get? b = some o) → i < vs.length → j < vs.length → C (ask i j) { s with heap := h' } → wpAny (model prog w) A (keyLt' κ (vs.getD i .none) (vs.getD j .none)) C (fun _ _ => False) { s with heap := h' })
    (hr : runB vs.length ask (kas_sort vs.length) = some p)
    (h : p.size = vs.length → Q (.ref (s.heap.objs.size + 1)) { s with heap := sortedAll s.heap vs (List.toArray (p.toList.map fun i => vs.getD i .none)) }) :
    wpAny (model prog w) A (call (.builtin "sorted") [.ref l]) Q E s := by
  refine Calls.call_function_entry kind_sorted plain_sorted entry_sorted (args_sorted1 _) ?_
  unfold Builtin.«sorted»
  refine wpAny_bind (m := checkCount "sorted" 1 1 _) (wpAny_pure ?_)
  refine wpAny_bind (collect_list hl ?_ (by rw [sizeLine_eq]; omega))
  refine wpAny_bind (wpAny_newList ?_ (by rw [sizeLine_eq]; omega))
  have hsz : ((s.heap.push (seqObj "list" #[] 0)).update s.heap.objs.size (Obj.mapSeq (· ++ vs.toArray))).objs.size = s.heap.objs.size + 1 := by
    rw [Heap.size_update, size_push']
  show wpAny _ _ _ _ _ { s with heap := ((s.heap.push (seqObj "list" #[] 0)).update s.heap.objs.size (Obj.mapSeq (· ++ vs.toArray))).push (seqObj "list" vs.toArray 0) }
  rw [hsz]
  generalize hH : ((s.heap.push (seqObj "list" #[] 0)).update s.heap.objs.size (Obj.mapSeq (· ++ vs.toArray))).push (seqObj "list" vs.toArray 0) = H
  have hoL : H.get? (s.heap.objs.size + 1) = some (seqObj "list" vs.toArray 0) := by
    rw [← hH, ← hsz]; exact Heap.get?_push_size _ rfl
  have keep : ∀ b o, s.heap.get? b = some o → H.get? b = some o := fun b o q => by
    have hlt : b < s.heap.objs.size := Heap.lt_size q
    rw [← hH, Heap.get?_push_ne _ _ _ (by rw [hsz]; exact Nat.ne_of_lt (Nat.lt_succ_of_lt hlt)), Heap.get?_update_ne _ _ _ _ (Nat.ne_of_lt hlt), Heap.get?_push_ne _ _ _ (Nat.ne_of_lt hlt)]
    exact q
  have keep6 : ∀ b o, s.heap.get? b = some o → (heap6 H (s.heap.objs.size + 1) vs).get? b = some o := fun b o q => by
    have hlt : b < s.heap.objs.size := Heap.lt_size q
    exact Heap.get?_push_of_some _ (Heap.get?_push_of_some _ ((Heap.get?_update_other _ _ (Nat.ne_of_gt (Nat.lt_succ_of_lt hlt))).trans (keep b o q)))
  have fin : ∀ out, sortedAll s.heap vs out = sortedHeap H (s.heap.objs.size + 1) vs out := fun out => by rw [← hH]; rfl
  refine wpAny_bind (wpAny_holding (wpAny_call_entry slot_list_sort ⟨_, hoL, rfl⟩ entry_list_sort (sort_asks (s := { s with heap := H }) hoL h2 h64 (fun Q E hQ => hk _ _ Q E keep6 hQ) (fun i j C hi hj hC => hc _ _ i j C keep6 hi hj hC) hr fun hp => ⟨_, rfl, ?_⟩) (args_list_sort _)))
  have := h hp
  rw [fin] at this
  exact wpAny_pure ⟨_, rfl, this⟩
end
end Mine
namespace Mine
theorem Rp.rank {X : List Addr} {h : Heap} {v : Value} {p : Int × Nat} (r : Rp X h v (dRank p)) : ∃ a t u, v = .ref a ∧ IsTup h a (List.toArray [.int p.1 t, .int (p.2 : Nat) u]) := by
  obtain ⟨a, vs, rfl, ht, rl⟩ := r.ofTuple
  obtain ⟨x, y, rfl, r1, r2⟩ := rl.two
  obtain ⟨t, rfl⟩ := r1.ofInt
  obtain ⟨u, rfl⟩ := r2.ofInt
  exact ⟨a, t, u, rfl, ht⟩
theorem katOf {X : List Addr} {h : Heap} : ∀ {vs : List Value} {rs : List (Int × Nat)}, RpL X h vs (rs.map dRank) → ∃ fs, KatTups h vs fs ∧ fs.length = rs.length ∧ ∀ v ∈ fs, ∃ k t, v = .int k t
  | vs, [], r => by rw [r.nil_inv]; exact ⟨[], trivial, rfl, fun _ q => nomatch q⟩
  | vs, p :: rs, r => by
    obtain ⟨v, vs', rfl, r1, r2⟩ := r.cons_inv
    obtain ⟨fs, t, l, hf⟩ := katOf r2
    obtain ⟨a, t1, t2, rfl, o, e, c, n, d⟩ := r1.rank
    exact ⟨.int p.1 t1 :: fs, .cons e c d rfl t, by simp [l], fun v m => (List.mem_cons.mp m).elim (fun q => ⟨_, _, q⟩) (hf v)⟩
def askR (rs : List (Int × Nat)) (i j : Nat) : Bool := decide ((rs.getD i (0, 0)).1 < (rs.getD j (0, 0)).1)
theorem rpl_pick {X : List Addr} {h : Heap} {vs : List Value} {rs : List (Int × Nat)} (r : RpL X h vs (rs.map dRank)) : ∀ (l : List Nat), (∀ i ∈ l, i < rs.length) → RpL X h (l.map fun i => vs.getD i .none) ((l.map fun i => rs.getD i (0, 0)).map dRank)
  | [], _ => RpL.nil
  | i :: l, hp => by
    have hi := hp i List.mem_cons_self
    obtain ⟨v, ev, rv⟩ := r.get' (i := i) (d := dRank (rs.getD i (0, 0))) (by rw [List.getElem?_map, List.getD_eq_getElem?_getD, List.getElem?_eq_getElem hi]; rfl)
    have ih := rpl_pick r l fun j m => hp j (List.mem_cons_of_mem _ m)
    rw [List.map_cons, List.map_cons, List.map_cons]
    refine RpL.cons ?_ ih
    rw [List.getD_eq_getElem?_getD, ev]; exact rv
section
variable {G : Gl} {A : Around} {env : Env} {K : Frag} {h₁ : Heap} {X : List Addr}
theorem does_sortedT {v : Value} {rs : List (Int × Nat)} {p : Array Nat} (hX : Al X h₁) (r : Rp X h₁ v (dRanked rs)) (h2 : 2 ≤ rs.length) (h64 : rs.length < 64) (hnd : ∀ i j, i < rs.length → j < rs.length → (rs.getD i (0, 0)).1 = (rs.getD j (0, 0)).1 → i = j)
    (hr : runB rs.length (askR rs) (kas_sort rs.length) = some p) (hp : ∀ i ∈ p.toList, i < rs.length) : Does G A h₁ (call (.builtin "sorted") [v]) (fun h x => Rp X h x (dRanked (p.toList.map fun i => rs.getD i (0, 0)))) := fun s Q E k hQ => by
  obtain ⟨a, vs, rfl, hx, il, rl⟩ := (r.keep k).ofList
  have ll : vs.length = rs.length := by rw [rl.length, List.length_map]
  have at_ : ∀ {h'}, (∀ b o, s.heap.get? b = some o → h'.get? b = some o) → ∀ i, i < rs.length → ∃ a t u, vs.getD i .none = .ref a ∧ IsTup h' a (List.toArray [.int (rs.getD i (0, 0)).1 t, .int ((rs.getD i (0, 0)).2 : Nat) u]) := fun {h'} kk i hi => by
    obtain ⟨v, ev, rv⟩ := (rl.keep (Kp.of (Bs := G.Bs) kk)).get' (i := i) (d := dRank (rs.getD i (0, 0))) (by rw [List.getElem?_map, List.getD_eq_getElem?_getD, List.getElem?_eq_getElem hi]; rfl)
    rw [List.getD_eq_getElem?_getD, ev]
    exact rv.rank
  refine sorted_asks (κ := tuples' (Value.type "int" != Value.type "tuple")) (ask := askR rs) (p := p) il (by omega) (by omega) (fun h' A' Q' E' kk hQ' => ?_) (fun h' A' i j C kk hi hj hC => ?_) (by rw [ll]; exact hr) fun hps => ?_
  · obtain ⟨fs, t, l, hf⟩ := katOf (rl.keep (Kp.of (Bs := G.Bs) kk))
    exact kat_kind (T := .type "int") t (by omega) (fun v m => by obtain ⟨n, u, rfl⟩ := hf v m; exact .now) (by decide) hQ'
  · rw [ll] at hi hj
    obtain ⟨x, t1, t2, ex, ox, hox, cx, nx, dx⟩ := at_ kk i hi
    obtain ⟨y, u1, u2, ey, oy, hoy, cy, ny, dy⟩ := at_ kk j hj
    rw [ex, ey]
    refine kat_lt hox dx hoy dy (kat_cons (wpAny_eqBool_int ?_))
    by_cases q : (rs.getD i (0, 0)).1 = (rs.getD j (0, 0)).1
    · have ij := hnd i j hi hj q
      subst ij
      rw [show ((rs.getD i (0, 0)).1 == (rs.getD i (0, 0)).1) = true by simp]
      refine kat_yes (kat_cons (wpAny_eqBool_int ?_))
      rw [show ((((rs.getD i (0, 0)).2 : Nat) : Int) == (((rs.getD i (0, 0)).2 : Nat) : Int)) = true by simp]
      refine kat_yes (kat_nil ?_)
      have : askR rs i i = false := by unfold askR; simp
      rw [this] at hC
      exact hC
    · rw [show ((rs.getD i (0, 0)).1 == (rs.getD j (0, 0)).1) = false by simpa using q]
      exact kat_no (oneLt_int hC)
  · obtain ⟨e, he⟩ := sortedAll_at s.heap vs (List.toArray (p.toList.map fun i => vs.getD i .none))
    have kp : Kp G.Bs s.heap (sortedAll s.heap vs (List.toArray (p.toList.map fun i => vs.getD i .none))) := Kp.of fun _ _ => sortedAll_old
    have nn : s.heap.get? (s.heap.objs.size + 1) = none := none_ge (Nat.le_succ _)
    refine hQ _ _ s.toks kp (Rp.list ⟨_, he, rfl, e, rfl⟩ ((hX.keep k).outOf nn) ?_)
    exact rpl_pick (rl.keep kp) _ hp
end
end Mine
namespace Mine
theorem g_due (w : World) : nsIn (KH w) mainGlobals "_law_due" = some (some (.ref 107)) := by rfl
theorem g_sum (w : World) : nsIn (KH w) mainGlobals "sum" = some none := by rfl
theorem Block.ofCell {env : Env} {scope : Scope} {cl : List (Str × Addr)} {x : Str} {px : Pos} (kind : scope.kind = .function) (clos : closureFor scope env = pure cl) (names : ∀ x ∈ scope.names, x.2 = .local → scope.names.lookup x.1 = some .local)
    (hk : ∀ C, (compEnvC scope (cellsFrom (C + 1) scope.names cl) C env).kindOf x = some .cell) (hl : ∀ C, (cellsFrom (C + 1) scope.names cl).lookup x = some (C + 1)) (hp : ∀ h : Heap, pushCells h scope.names = h.push { cls := .type "cell", data := .cell none }) : Block scope cl env (.Name x px) where
  kind := kind
  clos := clos
  names := names
  ap := fun C => .inr ⟨x, px, rfl⟩
  can := fun h C hs _ y hy => by
    rw [List.mem_singleton.mp hy]
    refine .inr ⟨hk C, C + 1, none, hl C, ?_⟩
    rw [hp, ← hs]
    exact ⟨_, Heap.get?_push_size _ rfl, rfl⟩
  slot := fun C y hy => by
    rw [List.mem_singleton.mp hy]
    refine ⟨C + 1, ?_, Nat.le_succ _⟩
    unfold slotOf
    rw [hk]
    exact hl C
theorem sum_fig (x : Nat) : ∀ l : List Nat, (l.map fun c => ((fig x c : Nat) : Int)).sum = ((l.filter fun c => x.testBit c).length : Nat)
  | [] => rfl
  | c :: l => by
    rw [List.map_cons, List.sum_cons, sum_fig x l, List.filter_cons]
    have : fig x c = if x.testBit c then 1 else 0 := by
      unfold fig
      rw [Nat.testBit_eq_decide_div_mod_eq]
      by_cases h : x / 2 ^ c % 2 = 1
      · rw [h]; rfl
      · rw [decide_eq_false h]; simp; omega
    rw [this]
    cases x.testBit c <;> simp
    omega
section
variable {G : Gl} {A : Around} {h₁ : Heap} {X : List Addr} {k : Nat}
theorem due_spec (W : Wd (KH G.w) G.Bs) (g : Go G (k + 2) A h₁) (hX : Al X h₁) {rs : List (Int × Nat)} {p : Array Nat} {least : Int} (h2 : 2 ≤ rs.length) (h64 : rs.length < 64) (hnd : ∀ i j, i < rs.length → j < rs.length → (rs.getD i (0, 0)).1 = (rs.getD j (0, 0)).1 → i = j)
    (hr : runB rs.length (askR rs) (kas_sort rs.length) = some p) (hp : ∀ i ∈ p.toList, i < rs.length) (hpl : p.toList.length ≤ 16) {v1 v2 : Value} (r1 : Rp X h₁ v1 (dRanked rs)) (r2 : Rp X h₁ v2 (.int least)) :
    Does G A h₁ (call (.ref 107) [v1, v2]) (fun h v => Rp X h v (dNats (pickF least (p.toList.map fun i => (rs.getD i (0, 0)).2)))) := by
  refine call_def ["ranked", "least"] g W (W.K 107 _ rfl) rfl rfl rfl rfl rfl rfl rfl (by decide) rfl ?_
  intro s₀ h tk k₀ F P g'
  have kh := k₀.trans F.keep
  have hb : Kp G.Bs G.Bs s₀.heap := g.base.trans k₀
  have V1 : Var X _ h "ranked" (dRanked rs) := ⟨v1, P _ (.head _), r1.keep kh⟩
  have V2 : Var X _ h "least" (.int least) := ⟨v2, P _ (.tail _ (.head _)), r2.keep kh⟩
  have hXh := hX.keep kh
  have ap := F.ap
  refine st_new (X := X) F ⟨_, rfl⟩ hXh fun D h2' tk2 nD nDs DX c2 F2 vp2 p2 hX2 => ?_
  have V12 := c2.var ap (by decide) nosub (V1.fresh nD)
  have V22 := c2.var ap (by decide) nosub (V2.fresh nD)
  have DD : ∀ y ∈ [D], y ∈ D :: X := fun y m => by rw [List.mem_singleton.mp m]; exact List.mem_cons_self
  have g2 := g.at k₀ F2
  generalize hcs : (p.toList.map fun i => rs.getD i (0, 0)) = cs
  have hcl : cs.length ≤ 16 := by rw [← hcs, List.length_map]; exact hpl
  have hws : (p.toList.map fun i => (rs.getD i (0, 0)).2) = cs.map (·.2) := by rw [← hcs, List.map_map]; rfl
  rw [hws]
  refine st_for (X := D :: X) (Y := [D]) (ds := cs.map dRank) ["rank", "word"] F2 g'.hd hX2 DD (fun y m => by rw [List.mem_singleton.mp m]; exact nDs)
    (it_list g'.hd (ev_callB (ev_built W g2.base (g_sorted _) boot_sorted) (ar_cons (ev_name V12 rfl) ar_nil) fun vs h3 k3 r => ?_)) (fun x hx => ?_)
    (fun d hd => by obtain ⟨c, _, rfl⟩ := List.mem_map.mp hd; exact show ("rank" : Str) ≠ "word" by decide)
    (fun i h => Look _ h "due" (.ref D) ∧ Var (D :: X) _ h "least" (.int least) ∧ ∃ vs, h.PlainList D (List.toArray vs) ∧ RpL (D :: X) h vs ((pickF least ((cs.take i).map (·.2))).map fun w => .int (w : Nat))) ⟨vp2, V22, [], p2, RpL.nil⟩ ?_ ?_
  · obtain ⟨v, vs', rfl, rv, rn⟩ := r.cons_inv
    rw [rn.nil_inv, ← hcs]
    exact does_sortedT (hX2.keep k3) rv h2 h64 hnd hr hp
  · rcases List.mem_cons.mp hx with rfl | hx
    · exact ⟨by decide, _, rfl⟩
    · rw [List.mem_singleton.mp hx]; exact ⟨by decide, _, rfl⟩
  · intro i d hi hc' tk3 E' ed Ji stl Fc alc tv
    rw [List.getElem?_map] at ed
    obtain ⟨c, ec, rfl⟩ := Option.map_eq_some_iff.mp ed
    obtain ⟨lp, vl, vs, pl, rl⟩ := Ji
    have lp3 := stl.look ap (by decide) lp
    have vl3 := stl.var ap (by decide) vl
    have pl3 := stl.plain pl
    have rl3 := stl.rpL rl
    have vw : Var (D :: X) _ hc' "word" (.int (c.2 : Nat)) := tv.2
    have gc := g.at k₀ Fc
    have nx : pickF least ((cs.take (i + 1)).map (·.2)) = pickStep least (pickF least ((cs.take i).map (·.2))) c.2 := by
      rw [List.take_add_one, ec]; simp [pickF, List.foldl_append]
    have bl : (pickF least ((cs.take i).map (·.2))).length ≤ 16 := by
      have := pick_len least ((cs.take i).map (·.2))
      rw [List.length_map, List.length_take] at this; omega
    generalize hps : pickF least ((cs.take i).map (·.2)) = ps at *
    have Vp : Var X _ hc' "due" (dNats ps) := ⟨_, lp3, Rp.list pl3.isList DX rl3.tail⟩
    have alX : Al X hc' := fun a m => alc a (List.mem_cons_of_mem _ m)
    refine st_if (b := (ps.filter fun o => decide ((pc (o ^^^ c.2) : Int) < least)).isEmpty) Fc (tr_empty' (X := X) gc alX (ev_comp' (xs := ps) (enc := fun w => .int (w : Nat)) (fun o => decide ((pc (o ^^^ c.2) : Int) < least)) (fun w => .int (w : Nat)) (Block.ofCell rfl rfl (by decide) (fun _ => rfl) (fun _ => rfl) (fun _ => rfl)) g'.hd alX (it_list g'.hd (ev_name Vp rfl)) (by rw [sizeLine_eq]; omega) ?_ rfl) (by simp)) fun h4 tk4 k4 F4 => ?_
    · intro o ho
      refine ⟨trivial, fun C D' h' kp nD' nC al tv => ?_, fun C D' h' hp kp nD' nC al tv => ev_name tv rfl⟩
      have gh := gc.later kp
      have vo : Var (D' :: X) _ h' "one" (.int (o : Nat)) := tv
      have vw' := ((vw.tail.fresh nD').keep kp)
      refine tr_lt' (ev_sum (ns := (List.range 7).map fun c' => ((fig (o ^^^ c.2) c' : Nat) : Int)) W g'.hd gh.base (g_sum _) ?_) (ev_name ((vl3.tail.fresh nD').keep kp).inner rfl) (by rw [sum_fig]; rfl)
      refine ev_comp' (xs := List.range 7) (enc := fun i => .int (i : Nat)) (fun _ => true) (fun c' => .int ((fig (o ^^^ c.2) c' : Nat) : Int)) (Block.locals rfl rfl (by decide) (by decide)) g'.hd al (it_range W g'.hd gh.base (g_range _) ev_int (by decide)) (by decide) ?_ (by rw [filt_true, dInts, List.map_map]; rfl)
      intro c' hc7
      have c7 : c' < 7 := List.mem_range.mp hc7
      refine ⟨trivial, fun C2 D2 h3 kp2 nD2 nC2 al2 tv2 => rfl, fun C2 D2 h3 hp2 kp2 nD2 nC2 al2 tv2 => ?_⟩
      have vc : Var (D2 :: D' :: X) _ h3 "c" (.int (c' : Nat)) := tv2
      exact ev_is (ev_mod (ev_fdiv (ev_xor (ev_name ((vo.fresh nD2).keep kp2).inner rfl) (ev_name ((vw'.fresh nD2).keep kp2).inner rfl)) (ev_pow ev_int (ev_name vc rfl) (by omega) (by omega) (by decide)) (two_pow_ne _) (pylong_small (two_pow_abs (by omega)))) ev_int (by decide)) (by rw [← fig_cast, bitXor_nat]; simp)
    by_cases q : (ps.filter fun o => decide ((pc (o ^^^ c.2) : Int) < least)).isEmpty = true
    · rw [if_pos q]
      have nx' : pickF least ((cs.take (i + 1)).map (·.2)) = ps ++ [c.2] := by rw [nx, pickStep, if_pos q]
      refine app_ev F4.kind (lp3.keep k4) (ev_name (vw.keep k4) rfl) (k4.plain pl3) (by have := rl3.length; rw [List.length_map] at this; omega) fun h5 h6 tk6 v k5 rv ch pl6 => ?_
      have k45 := k4.trans k5
      have chc : Chg G.Bs _ ["rank", "word"] [D] hc' h6 := ((Chg.ofKp k45).trans ch).sub (fun _ q => nomatch q) (fun _ q => q)
      refine wpAny_execs_nil (wpAny_execs_nil ⟨h6, tk6, rfl, chc, chc.look ap (by decide) lp3, chc.var ap (by decide) DD vl3, vs ++ [v], pl6, ?_⟩)
      rw [nx', List.map_append]
      have sD : Stays (D :: X) h5 h6 := ch.stays DD
      exact RpL.append ((rl3.keep k45).stays sD) (RpL.cons (rv.stays sD) RpL.nil)
    · rw [if_neg q]
      have nx' : pickF least ((cs.take (i + 1)).map (·.2)) = ps := by rw [nx, pickStep, if_neg q]
      refine wpAny_execs_nil (wpAny_execs_nil ⟨h4, tk4, rfl, (Chg.ofKp k4).sub (fun _ q => nomatch q) (fun _ q => nomatch q), lp3.keep k4, vl3.keep k4, vs, k4.plain pl3, ?_⟩)
      rw [nx']; exact rl3.keep k4
  · intro hn he tk4 Jn stl ce Fe
    obtain ⟨lp, vl, vs, pl, rl⟩ := Jn
    rw [List.length_map, List.take_length] at rl
    exact ret_ev Fe (ev_name ⟨_, stl.look ap (by decide) lp, Rp.list (stl.plain pl).isList DX (stl.rpL rl).tail⟩ rfl)
end
end Mine
namespace Mine
theorem k_init (w : World) : findIn (KH w) (.ref 45) "__init__" = some (some (.ref 35)) := by rfl
theorem k_compare (w : World) : findIn (KH w) (.ref 45) "compare" = some (some (.ref 42)) := by rfl
theorem k_makes (w : World) : makesIn (KH w) 45 = true := by rfl
theorem k_csl (w : World) : findIn (KH w) (.ref 45) "comp_select_list" = some none := by rfl
theorem k_set (w : World) : findIn (KH w) (.ref 45) "__setattr__" = some (some (.builtin "object.__setattr__")) := by rfl
theorem k_get (w : World) : findIn (KH w) (.ref 45) "__getattribute__" = some (some (.builtin "object.__getattribute__")) := by rfl
theorem k_geta (w : World) : findIn (KH w) (.ref 45) "__getattr__" = some none := by rfl
theorem k_dict (w : World) : hasDictIn (KH w) 45 = true := by rfl
theorem k_over (w : World) : plainOver (KH w) 45 = true := by rfl
theorem k_taker (w : World) : takerIn (KH w) 45 "comp_select_list" = some none := by rfl
theorem k_fn35 (w : World) : typeIn (KH w) (.ref 35) = some (.type "function") := by rfl
theorem k_fn42 (w : World) : typeIn (KH w) (.ref 42) = some (.type "function") := by rfl
theorem k_keep42 (w : World) : keepIn (KH w) (.ref 42) = true := by rfl
theorem g_tc (w : World) : nsIn (KH w) mainGlobals "TupleComp" = some (some (.ref 45)) := by rfl
/-- a call's code, any end -/
theorem call_code {G : Gl} {A : Around} {K : Frag} {s : Shared} {R : Result → Shared → Prop} {a : Addr} {o : Obj} {fd : FuncData} {body : List Stmt} {vals : List Value} (names : List Str) (hroom : A.depth < recursionLimit) (hb : Kp G.Bs G.Bs s.heap) (W : Wd K G.Bs)
    (ho : G.Bs.get? a = some o) (hd : o.data = .func fd) (hcd : codeIn K fd.code fd.qualname = true) (hbody : fd.body = .stmts body) (hbind : bindArgs fd ⟨vals, []⟩ = pure (names.zip vals)) (hlen : names.length = vals.length) (hclo : fd.closure = [])
    (hkn : (names.all fun y => fd.scope.names.lookup y == some .local) = true) (hnd' : names.Nodup) (hk : fd.scope.kind = .function)
    (h : ∀ h' tk, (∀ b o, s.heap.get? b = some o → h'.get? b = some o) → (∀ p ∈ names.zip vals, Look (callEnvC fd s.heap.objs.size a) h' p.1 p.2) →
      wpAny (model G.prog G.w) (A.deeper (callEnvC fd s.heap.objs.size a)) (execs body (callEnvC fd s.heap.objs.size a)) (fun f s' => R (.ok (.ret (match f with | .ret v => v | _ => .none))) s') (fun _ _ => False) { s with heap := h', toks := tk })
    (hco : fd.scope.isCoroutine = false := by rfl) (hgen : fd.scope.isGenerator = false := by rfl) : codeAny (model G.prog G.w) A (.call (.ref a) ⟨vals, []⟩) R s := by
  have hnm : (names.zip vals).map (·.1) = names := List.map_fst_zip (by omega)
  have hnd : ((names.zip vals).map (·.1)).Nodup := by rw [hnm]; exact hnd'
  have hloc : ∀ y ∈ names.zip vals, fd.scope.names.lookup y.1 = some .local := fun y hy => by
    have := List.all_eq_true.mp hkn y.1 (by rw [← hnm]; exact List.mem_map_of_mem hy)
    simpa using this
  have kb := hb.base
  refine codeAny_call_cells hroom (kb _ _ ho) hd (W.nolimit.keeps kb) ((codeRec_of W.K hcd).keeps kb) hbody hbind hclo (fun y hy => .inl (hloc y hy)) (fun s₁ x => ?_) hco hgen hk
  obtain ⟨h', tk, rfl, kk⟩ := x.done
  refine wpAny_mono (h h' tk kk fun p hp => .inl ⟨hloc p hp, _, x.toInCall.ns, bindL_in (hloc p hp) hnd hp⟩) (fun f s' z => z) fun _ _ q => q.elim
theorem lookIn_data {name : Str} {o o' : Obj} (e : o'.data = o.data) : lookIn name o' = lookIn name o := by unfold lookIn; rw [e]
/-- a TupleComp that was made -/
def TC (X : List Addr) (h : Heap) (x : Addr) (ps : List (Nat × Int)) : Prop := ∃ dx od v, h.get? x = some (instObj 45 dx) ∧ h.get? dx = some od ∧ lookIn "comp_select_list" od = some (some v) ∧ lookIn "compare" od = some none ∧ handedIn v = true ∧ Rp X h v (dPicks ps)
theorem TC.keep {Bs : Heap} {X : List Addr} {h h' : Heap} {x : Addr} {ps : List (Nat × Int)} (t : TC X h x ps) (k : Kp Bs h h') : TC X h' x ps := by
  obtain ⟨dx, od, v, e1, e2, l1, l2, hv, r⟩ := t
  obtain ⟨od', e2', sm⟩ := k dx od e2
  exact ⟨dx, od', v, k.ex e1 (fun _ _ q => nomatch q), e2', by rw [lookIn_data sm.data]; exact l1, by rw [lookIn_data sm.data]; exact l2, hv, r.keep k⟩
theorem TC.fresh {X : List Addr} {h : Heap} {x D : Addr} {ps : List (Nat × Int)} (t : TC X h x ps) (n : h.get? D = none) : TC (D :: X) h x ps := by
  obtain ⟨dx, od, v, e1, e2, l1, l2, hv, r⟩ := t
  exact ⟨dx, od, v, e1, e2, l1, l2, hv, r.fresh n⟩
theorem TC.inst {X : List Addr} {h : Heap} {x : Addr} {ps : List (Nat × Int)} (t : TC X h x ps) : ∃ dx od v, InstAt h x (instObj 45 dx) 45 (some od) ∧ lookIn "comp_select_list" od = some (some v) ∧ lookIn "compare" od = some none ∧ handedIn v = true ∧ Rp X h v (dPicks ps) := by
  obtain ⟨dx, od, v, e1, e2, l1, l2, hv, r⟩ := t
  exact ⟨dx, od, v, ⟨e1, rfl, rfl, e2⟩, l1, l2, hv, r⟩
section
variable {G : Gl} {A : Around} {h₁ : Heap} {X : List Addr} {k : Nat} {env : Env}
/-- the attribute, read -/
theorem ev_csl {nm : Str} {np pos : Pos} {x : Addr} {ps : List (Nat × Int)} (W : Wd (KH G.w) G.Bs) (hb : Kp G.Bs G.Bs h₁) (l : Look env h₁ nm (.ref x)) (t : TC X h₁ x ps) (hk : env.scope.kind = .function) (hd : (nm == ("__debug__" : Str)) = false := by decide) :
    Ev G A env h₁ X (.Attribute (.Name nm np) "comp_select_list" pos) (dPicks ps) := fun s Q E kp hQ => by
  obtain ⟨dx, od, v, I, l1, l2, hv, r⟩ := (t.keep kp).inst
  refine Attribute_name (look_name (l.keep kp) hk ?_ hd)
  exact get_value (W.K.keeps (hb.trans kp).base) I (k_get _) (findObj_own (k_dict _) (k_csl _) rfl l1) hv (hQ v s.heap _ (Kp.refl _) r)
/-- the method, called -/
theorem ev_compare {nm : Str} {np ap pos : Pos} {x : Addr} {ps : List (Nat × Int)} {e1 e2 : Expr} {R1 : Heap → List Value → Prop} {R : Heap → Value → Prop} (W : Wd (KH G.w) G.Bs) (hb : Kp G.Bs G.Bs h₁) (l : Look env h₁ nm (.ref x)) (t : TC X h₁ x ps) (hk : env.scope.kind = .function)
    (ha : Does G A h₁ (spliced (backTo pos (starEach [e1, e2] env))) R1) (hc : ∀ vs h, Kp G.Bs h₁ h → R1 h vs → Does G A h (call (.ref 42) (.ref x :: vs)) R) (hd : (nm == ("__debug__" : Str)) = false := by decide)
    (hbase : attributeBase (.Name nm np) "compare" env (eval (.Name nm np) env) = eval (.Name nm np) env := by rfl)
    (hfew : ((backTo pos (starEach [e1, e2] env)).all (fun x => !x.1) && (backToKw pos (keywordEach [] env)).all (fun x => x.1.isSome)
      && decide ([e1, e2].length + ([] : List Keyword).length + (if ([] : List Keyword).isEmpty then 0 else 1) < 30)) = true := by rfl)
    (hline : (ap.endLine == pos.line) = true := by rfl)
    (hs : starEach [e1, e2] env = (false, eval e1 env) :: starEach [e2] env := by rfl) (hp : (backTo pos (starEach [e2] env)).any (·.1) = false := by rfl) :
    Does G A h₁ (eval (.Call (.Attribute (.Name nm np) "compare" ap) [e1, e2] [] pos) env) R := fun s Q E kp hQ => by
  obtain ⟨dx, od, v, I, l1, l2, hv, r⟩ := (t.keep kp).inst
  have XK := W.K.keeps (hb.trans kp).base
  rw [arm_eval_Call, hbase]
  refine wpAny_bind (look_name (l.keep kp) hk (wpAny_bind (wpAny_standAt ?_)) hd)
  have hform : methodCallForm ([e1, e2].length + ([] : List Keyword).length) (backTo pos (starEach [e1, e2] env)) (backToKw pos (keywordEach [] env)) = true := hfew
  have hpos : methodCallPos true (.Name nm np) env ap pos = pure pos := by unfold methodCallPos; simp [hline]
  unfold methodCall
  rw [hform]
  refine wpAny_bind (wpAny_holding (method_fn XK I (k_get _) (k_geta _) (k_compare _) (k_fn42 _) (by show (lookIn _ od).map _ = _; rw [l2]; rfl) ?_))
  refine wpAny_bind (wpAny_of_eq hpos ?_)
  refine callWith_K (K := KH G.w) (h₀ := s.heap) XK (k_keep42 _) (ha s _ E kp fun vs h2 tk2 k2 r2 => ⟨W.K.keeps (hb.trans (kp.trans k2)).base, ?_⟩) hs hp
  exact hc vs h2 (kp.trans k2) r2 _ Q E (Kp.refl _) fun u h3 tk3 k3 r3 => hQ u h3 tk3 (k2.trans k3) r3
end
end Mine
namespace Mine
section
variable {G : Gl} {A : Around} {h₁ : Heap} {X : List Addr} {k : Nat} {env : Env}
theorem new_spec (W : Wd (KH G.w) G.Bs) (g : Go G (k + 2) A h₁) {ps : List (Nat × Int)} {v : Value} (r : Rp X h₁ v (dPicks ps)) :
    Does G A h₁ (call (.ref 45) [v]) (fun h u => ∃ x, u = .ref x ∧ TC X h x ps) := fun s Q E kp hQ => by
  obtain ⟨h, g0, d, t, os⟩ := s
  have kp : Kp G.Bs h₁ h := kp
  have hb : Kp G.Bs G.Bs h := g.base.trans kp
  have XK := W.K.keeps hb.base
  have hv : handedIn v = true := by obtain ⟨a, vs, rfl, _⟩ := r.ofList; rfl
  refine wpAny_call (make_core (C := 45) (makes_of XK (k_makes _)) (looks_findIn XK (k_init _)) (fun self => bind_fn XK self (k_fn35 _)) (.inl rfl) ?_)
  have k2 : ∀ b o, h.get? b = some o → ((h.push emptyDict).push (instObj 45 h.objs.size)).get? b = some o := fun b o e => Heap.get?_push_of_some _ (Heap.get?_push_of_some _ e)
  have hx : ((h.push emptyDict).push (instObj 45 h.objs.size)).get? (h.objs.size + 1) = some (instObj 45 h.objs.size) := by heap_get
  have hdx : ((h.push emptyDict).push (instObj 45 h.objs.size)).get? h.objs.size = some emptyDict := Heap.get?_push_of_some _ (Heap.get?_push_size _ rfl)
  generalize hH2 : (h.push emptyDict).push (instObj 45 h.objs.size) = h2 at k2 hx hdx ⊢
  have nx : h.get? h.objs.size = none := none_ge (Nat.le_refl _)
  have nxd : h.objs.size + 1 ≠ h.objs.size := by omega
  generalize h.objs.size = dx at *
  generalize hxx : dx + 1 = x at *
  refine call_code (K := KH G.w) (s := ⟨h2, g0, d, t, os⟩) ["self", "comp_select_list"] (by have := g.dp; rw [depth_under_kw]; simp only [recursionLimit]; omega) (hb.trans (Kp.of k2)) W (W.K 35 _ rfl) rfl rfl rfl rfl rfl rfl rfl (by decide) rfl ?_
  intro h3 tk3 k3 P
  have L1 : Look _ h3 "self" (.ref x) := P _ (.head _)
  have L2 : Look _ h3 "comp_select_list" v := P _ (.tail _ (.head _))
  have XK3 := W.K.keeps ((hb.trans (Kp.of k2)).trans (Kp.of k3)).base
  have hx3 := k3 _ _ hx
  have hdx3 := k3 _ _ hdx
  have I : InstAt h3 x (instObj 45 dx) 45 (some emptyDict) := ⟨hx3, rfl, rfl, hdx3⟩
  refine wpAny_execs_cons (plainObj_wpAny_Assign_Attribute (look_name (G := G) L2 rfl (look_name (G := G) L1 rfl ?_)))
  refine set_plain XK3 I (k_set _) (osa_open XK3 I (k_over _) (k_taker _) fun b => ?_)
  obtain ⟨cd, hc, hd'⟩ := any_some (k_dict G.w)
  refine wpAny_bind (wpAny_pure (wpAny_bind (wpAny_bind (wpAny_loadPart hx3 (wpAny_bind ((looks_clsIn XK3 hc).here ?_))))))
  rw [hd']
  refine wpAny_pure (a := some dx) (wpAny_bind (wpAny_pure (wpAny_bind ?_)))
  unfold nsSet
  refine wpAny_bind (wpAny_bind (wpAny_askSetting (wpAny_pure (wpAny_bind (wpAny_mkText (wpAny_bind (wpAny_loadPart hdx3 ?_)))))))
  rw [show emptyDict.data = Data.dict #[] 0 from rfl]
  dsimp only
  rw [aRefKeyMayBeTheName_at]
  refine wpAny_ite ?_
  rw [if_neg (by simp)]
  refine wpAny_updatePart hdx3 ?_
  dsimp only
  generalize hkey : (Value.str (Str.ofString "comp_select_list") (tk3 + 1)) = key
  generalize hhs : (if (Str.ofString "comp_select_list").cps.isEmpty = true then (0 : Int) else _) = hs
  have pe : Obj.putName (Str.ofString "comp_select_list") hs key v emptyDict = dictOf [⟨hs, key, v⟩] 1 := putName_dict _ _ _ _ [] 0
  have D' := Heap.get?_update_self (Obj.putName (Str.ofString "comp_select_list") hs key v) hdx3 (by rw [pe]; rfl)
  refine wpAny_bind (wpAny_lookBehind D' (by rw [pe]; exact pastItsLine_dict (show 1 ≤ sizeLine + 1 by decide)) ?_)
  refine wpAny_pure ?_
  rw [pe] at D'
  have kb4 : Kb G.Bs (· = dx) h3 (h3.update dx (Obj.putName (Str.ofString "comp_select_list") hs key v)) := kb_of_update _
  have kp4 : Kp G.Bs h (h3.update dx (Obj.putName (Str.ofString "comp_select_list") hs key v)) := kb4.kp ((Kp.of k2).trans (Kp.of k3)) fun b q => by rw [q]; exact nx
  have hx4 : (h3.update dx (Obj.putName (Str.ofString "comp_select_list") hs key v)).get? x = some (instObj 45 dx) := kb4.ex nxd hx3 (fun _ _ q => nomatch q)
  refine wpAny_execs_nil ⟨rfl, hQ _ _ _ kp4 ⟨x, rfl, dx, _, v, hx4, D', ?_, ?_, hv, (r.keep kp).keep kp4⟩⟩
  · rw [lookIn_dict, ← hkey]; rfl
  · rw [lookIn_dict, ← hkey]; rfl
end
end Mine
namespace Mine
theorem g_str (w : World) : nsIn (KH w) mainGlobals "str" = some none := by rfl
theorem g_above (w : World) : nsIn (KH w) mainGlobals "_law_above" = some (some (.ref 83)) := by rfl
def cmpF : List (Nat × Int) → List Int → List Int → Int
  | [], _, _ => 0
  | p :: ps, a, b => if a.getD p.1 0 < b.getD p.1 0 then -p.2 else if b.getD p.1 0 < a.getD p.1 0 then p.2 else cmpF ps a b
def dRow (r : List Int) : PyData := .tuple (r.map .int)
theorem seqIndex_nat {c n : Nat} (h : c < n) : seqIndex? ((c : Nat) : Int) n = some c := by
  unfold seqIndex?
  simp
  omega
theorem cmpF_neg (ps : List (Nat × Int)) (a b : List Int) : cmpF ps b a = - cmpF ps a b := by
  induction ps with
  | nil => rfl
  | cons p ps ih =>
    unfold cmpF
    by_cases h1 : a.getD p.1 0 < b.getD p.1 0
    · have h2 : ¬ b.getD p.1 0 < a.getD p.1 0 := by omega
      rw [if_pos h1, if_neg h2, if_pos h1]; omega
    · by_cases h2 : b.getD p.1 0 < a.getD p.1 0
      · rw [if_pos h2, if_neg h1, if_pos h2]
      · rw [if_neg h2, if_neg h1, if_neg h1, if_neg h2, ih]
theorem cmpF_range (ps : List (Nat × Int)) (hw : ∀ p ∈ ps, p.2 = 1 ∨ p.2 = -1) (a b : List Int) : cmpF ps a b = -1 ∨ cmpF ps a b = 0 ∨ cmpF ps a b = 1 := by
  induction ps with
  | nil => exact .inr (.inl rfl)
  | cons p ps ih =>
    have hp := hw p List.mem_cons_self
    have ih := ih fun q m => hw q (List.mem_cons_of_mem _ m)
    unfold cmpF
    split
    · omega
    · split
      · omega
      · exact ih
section
variable {G : Gl} {A : Around} {h₁ : Heap} {X : List Addr} {k : Nat} {env : Env}
theorem compare_spec (W : Wd (KH G.w) G.Bs) (g : Go G (k + 1) A h₁) (hX : Al X h₁) {ps : List (Nat × Int)} {x : Addr} {v1 v2 : Value} {a b : List Int} (t : TC X h₁ x ps) (r1 : Rp X h₁ v1 (dRow a)) (r2 : Rp X h₁ v2 (dRow b)) (hps : ∀ p ∈ ps, p.1 < a.length ∧ p.1 < b.length) (hl : a.length ≤ 4) (hl2 : b.length ≤ 4) :
    Does G A h₁ (call (.ref 42) [.ref x, v1, v2]) (fun h v => Rp X h v (.int (cmpF ps a b))) := by
  refine call_def ["self", "left", "right"] g W (W.K 42 _ rfl) rfl rfl rfl rfl rfl rfl rfl (by decide) rfl ?_
  intro s₀ h tk k₀ F P g'
  have kh := k₀.trans F.keep
  have L0 : Look _ h "self" (.ref x) := P _ (.head _)
  have V1 : Var X _ h "left" (dRow a) := ⟨v1, P _ (.tail _ (.head _)), r1.keep kh⟩
  have V2 : Var X _ h "right" (dRow b) := ⟨v2, P _ (.tail _ (.tail _ (.head _))), r2.keep kh⟩
  have hXh := hX.keep kh
  have ap := F.ap
  refine st_for (X := X) (Y := []) (ds := ps.map dPick) ["index", "direction", "l", "r"] F g'.hd hXh nosub (fun _ q => nomatch q) (it_list g'.hd (ev_csl W g'.base L0 (t.keep kh) rfl)) (fun x hx => ?_)
    (fun d hd => by obtain ⟨c, _, rfl⟩ := List.mem_map.mp hd; exact show ("index" : Str) ≠ "direction" by decide)
    (fun i h => Var X _ h "left" (dRow a) ∧ Var X _ h "right" (dRow b) ∧ cmpF (ps.drop i) a b = cmpF ps a b) ⟨V1, V2, rfl⟩ ?_ ?_
  · rcases List.mem_cons.mp hx with rfl | hx
    · exact ⟨by decide, _, rfl⟩
    · rw [List.mem_singleton.mp hx]; exact ⟨by decide, _, rfl⟩
  · intro i d hi hc tk3 E' ed Ji stl Fc alc tv
    rw [List.getElem?_map] at ed
    obtain ⟨p, ep, rfl⟩ := Option.map_eq_some_iff.mp ed
    obtain ⟨vl, vr, ec⟩ := Ji
    obtain ⟨pa, pb⟩ := hps p (List.mem_of_getElem? ep)
    have dr : ps.drop i = p :: ps.drop (i + 1) := by
      obtain ⟨h, rfl⟩ := List.getElem?_eq_some_iff.mp ep
      exact List.drop_eq_getElem_cons h
    rw [dr] at ec
    have vl3 := stl.var ap (by decide) vl
    have vr3 := stl.var ap (by decide) vr
    have vi : Var X _ hc "index" (.int (p.1 : Nat)) := tv.1
    have vd : Var X _ hc "direction" (.int p.2) := tv.2
    have ea : (a.map PyData.int)[p.1]? = some (.int (a.getD p.1 0)) := by rw [List.getElem?_map, List.getElem?_eq_getElem pa, List.getD_eq_getElem?_getD, List.getElem?_eq_getElem pa]; rfl
    have eb : (b.map PyData.int)[p.1]? = some (.int (b.getD p.1 0)) := by rw [List.getElem?_map, List.getElem?_eq_getElem pb, List.getD_eq_getElem?_getD, List.getElem?_eq_getElem pb]; rfl
    refine st_let (X := X) Fc (ev_itemT (d := .int (a.getD p.1 0)) (ev_name vl3 rfl) (ev_name vi rfl) (by omega) (by omega) (seqIndex_nat (by rw [List.length_map]; exact pa)) ea) ⟨_, rfl⟩ fun h4 tk4 c4 F4 vl4 => ?_
    have vr4 := c4.var ap (by decide) nosub vr3
    have vi4 := c4.var ap (by decide) nosub vi
    refine st_let (X := X) F4 (ev_itemT (d := .int (b.getD p.1 0)) (ev_name vr4 rfl) (ev_name vi4 rfl) (by omega) (by omega) (seqIndex_nat (by rw [List.length_map]; exact pb)) eb) ⟨_, rfl⟩ fun h5 tk5 c5 F5 vr5 => ?_
    have vl5 := c5.var ap (by decide) nosub vl4
    have c45 := c4.trans c5
    have vd5 := c45.var ap (by decide) nosub vd
    refine st_if (b := decide (a.getD p.1 0 < b.getD p.1 0)) F5 (tr_lt (ev_name vl5 rfl) (ev_name vr5 rfl)) fun h6 tk6 k6 F6 => ?_
    by_cases q1 : a.getD p.1 0 < b.getD p.1 0
    · rw [if_pos (decide_eq_true q1)]
      refine wpAny_execs_cons (wpAny_Return_some (Does.go (ev_neg (ev_name (vd5.keep k6) rfl)) (Kp.refl _) fun v h7 tk7 k7 r => ⟨v, h7, tk7, rfl, rfl, F6.keep.trans k7, ?_⟩))
      rw [← ec, cmpF, if_pos q1]; exact r
    · rw [if_neg (by simpa using q1)]
      refine wpAny_execs_nil ?_
      refine st_if (b := decide (b.getD p.1 0 < a.getD p.1 0)) F6 (tr_gt (ev_name (vl5.keep k6) rfl) (ev_name (vr5.keep k6) rfl)) fun h7 tk7 k7 F7 => ?_
      have k67 := k6.trans k7
      by_cases q2 : b.getD p.1 0 < a.getD p.1 0
      · rw [if_pos (decide_eq_true q2)]
        refine wpAny_execs_cons (wpAny_Return_some (Does.go (ev_name (vd5.keep k67) rfl) (Kp.refl _) fun v h8 tk8 k8 r => ⟨v, h8, tk8, rfl, rfl, F7.keep.trans k8, ?_⟩))
        rw [← ec, cmpF, if_neg q1, if_pos q2]; exact r
      · rw [if_neg (by simpa using q2)]
        have c47 := c45.trans (Chg.ofKp k67)
        refine wpAny_execs_nil (wpAny_execs_nil ⟨h7, tk7, rfl, c47.sub (by decide) (fun _ q => nomatch q), c47.var ap (by decide) nosub vl3, c47.var ap (by decide) nosub vr3, ?_⟩)
        rw [← ec, cmpF, if_neg q1, if_neg q2]
  · intro hn he tk4 Jn stl ce Fe
    obtain ⟨_, _, ec⟩ := Jn
    rw [List.length_map, List.drop_length] at ec
    rw [← ec]
    exact ret_ev Fe ev_int
end
end Mine
namespace Mine
theorem lay_m1 : (PyData.str "-1").canLay0 = true := by decide +kernel
theorem lay_0 : (PyData.str "0").canLay0 = true := by decide +kernel
theorem lay_1 : (PyData.str "1").canLay0 = true := by decide +kernel
theorem txt_m1 : (Str.ofString (toString (-1 : Int))) = "-1" := by decide +kernel
theorem txt_0 : (Str.ofString (toString (0 : Int))) = "0" := by decide +kernel
theorem txt_1 : (Str.ofString (toString (1 : Int))) = "1" := by decide +kernel
section
variable {G : Gl} {A : Around} {h₁ : Heap} {X : List Addr} {k : Nat} {env : Env} {K : Frag}
theorem ev_str {x : Str} {kk : Nat} {pos : Pos} (hs : (PyData.str x).canLay0 = true ) : Ev G A env h₁ X (.Constant (.str x) kk pos) (.str x) := fun s Q E _ hQ =>
  wpAny_Constant_str (by have := hQ (.str x s.toks) s.heap (s.toks + 1) (Kp.refl _) (Rp.str _ hs); exact this)
theorem ev_notIn {l r : Expr} {pos : Pos} {ds : List PyData} {d : PyData} {b : Bool} (hl : Ev G A env h₁ X l d) (hr : Ev G A env h₁ X r (.list ds)) (hu : A.units + 1 + min (PyData.depthAll ds) d.depth < cLine) (hb : b = !ds.any fun y => y.eqv d) (hm : behindInMarks .NotIn r = false := by with_unfolding_all rfl) :
    Ev G A env h₁ X (.Compare l [.NotIn] [r] pos) (.bool b) := by
  subst hb
  exact ev_cmp hl hr (fun u v h k ru rv => (does_notIn rv ru hu).imp fun _ _ _ e => by subst e; exact Rp.bool _) hm
/-- the signs' texts -/
def sgn (a : Int) : Str := if a = -1 then "-1" else if a = 0 then "0" else "1"
theorem ev_strOf {e : Expr} {p pos : Pos} {a : Int} (W : Wd K G.Bs) (hb : Kp G.Bs G.Bs h₁) (eg : nsIn K mainGlobals "str" = some none) (ha : a = -1 ∨ a = 0 ∨ a = 1) (he : Ev G A env h₁ X e (.int a))
    (hx : env.kindOf "str" = some .globalImplicit := by rfl) (hg : env.globals = mainGlobals := by rfl) (hbu : env.builtins = builtinsNs := by rfl) (hk : env.scope.kind = .function := by rfl)
    (hs : starEach [e] env = (false, eval e env) :: starEach [] env := by rfl) : Ev G A env h₁ X (.Call (.Name "str" p) [e] [] pos) (.str (sgn a)) :=
  ev_callT (ev_built W hb eg boot_str hg hbu hk hx) (ar_cons he ar_nil hs) (fun vs h kk r => by
    obtain ⟨v, vs', rfl, r1, rl⟩ := r.cons_inv
    rw [rl.nil_inv]
    obtain ⟨t, rfl⟩ := r1.ofInt
    intro s Q E kp hQ
    rcases ha with rfl | rfl | rfl
    · exact PySem.P.str_of_int (by decide) (hQ _ s.heap _ (Kp.refl _) (by rw [txt_m1]; exact Rp.str _ lay_m1))
    · exact PySem.P.str_of_int (by decide) (hQ _ s.heap _ (Kp.refl _) (by rw [txt_0]; exact Rp.str _ lay_0))
    · exact PySem.P.str_of_int (by decide) (hQ _ s.heap _ (Kp.refl _) (by rw [txt_1]; exact Rp.str _ lay_1))) hs
theorem above_spec (W : Wd (KH G.w) G.Bs) (g : Go G (k + 2) A h₁) (hX : Al X h₁) {ps : List (Nat × Int)} {x : Addr} {v1 v2 : Value} {a b : List Int} (t : TC X h₁ x ps) (r1 : Rp X h₁ v1 (dRow a)) (r2 : Rp X h₁ v2 (dRow b)) (hps : ∀ p ∈ ps, p.1 < a.length ∧ p.1 < b.length) (hl : a.length ≤ 4) (hl2 : b.length ≤ 4) (hw : ∀ p ∈ ps, p.2 = 1 ∨ p.2 = -1) :
    Does G A h₁ (call (.ref 83) [.ref x, v1, v2]) (fun h v => Rp X h v (.bool (decide (0 < cmpF ps a b)))) := by
  refine call_def ["comp", "one", "other"] g W (W.K 83 _ rfl) rfl rfl rfl rfl rfl rfl rfl (by decide) rfl ?_
  intro s₀ h tk k₀ F P g'
  have kh := k₀.trans F.keep
  have L0 : Look _ h "comp" (.ref x) := P _ (.head _)
  have V1 : Var X _ h "one" (dRow a) := ⟨v1, P _ (.tail _ (.head _)), r1.keep kh⟩
  have V2 : Var X _ h "other" (dRow b) := ⟨v2, P _ (.tail _ (.tail _ (.head _))), r2.keep kh⟩
  have hXh := hX.keep kh
  have th := t.keep kh
  have ca := cmpF_range ps hw a b
  have cb := cmpF_range ps hw b a
  refine ret_ev F ?_
  refine ev_notIn (d := .list [.str (sgn (cmpF ps a b)), .str (sgn (cmpF ps b a))]) (ds := [.list [.str "-1", .str "1"], .list [.str "0", .str "0"]])
    (ev_list hXh (ar_cons (ev_strOf W g'.base (g_str _) ca (ev_compare W g'.base L0 th rfl (ar_cons (ev_name V1 rfl) (ar_cons (ev_name V2 rfl) ar_nil)) fun vs h2 k2 r => ?_)) (ar_cons (ev_strOf W g'.base (g_str _) cb (ev_compare W g'.base L0 th rfl (ar_cons (ev_name V2 rfl) (ar_cons (ev_name V1 rfl) ar_nil)) fun vs h2 k2 r => ?_)) ar_nil)) (show 2 ≤ sizeLine by decide))
    (ev_list hXh (ar_cons (ev_list hXh (ar_cons (ev_str lay_m1) (ar_cons (ev_str lay_1) ar_nil))) (ar_cons (ev_list hXh (ar_cons (ev_str lay_0) (ar_cons (ev_str lay_0) ar_nil))) ar_nil))) (by have := g'.un; show _ + 1 + min 1 1 < 9900; omega) ?_
  · obtain ⟨u, v, rfl, q1, q2⟩ := r.two
    exact compare_spec W (g'.later k2) (hXh.keep k2) (th.keep k2) q1 q2 hps hl hl2
  · obtain ⟨u, v, rfl, q1, q2⟩ := r.two
    exact compare_spec W (g'.later k2) (hXh.keep k2) (th.keep k2) q1 q2 (fun p m => (hps p m).symm) hl2 hl
  · rw [cmpF_neg ps a b]
    rcases ca with e | e | e <;> rw [e] <;> decide
end
end Mine
namespace Mine
theorem g_listing (w : World) : nsIn (KH w) mainGlobals "_law_listing" = some (some (.ref 90)) := by rfl
def nilCard : Card := ([], 0)
def placeF (ab : Card → Bool) (L : List Card) : Nat → Nat
  | 0 => 0
  | p + 1 => if ab (L.getD p nilCard) then placeF ab L p else p + 1
def abF (ps : List (Nat × Int)) (c d : Card) : Bool := decide (0 < cmpF ps d.1 c.1)
def insF (ps : List (Nat × Int)) (L : List Card) (c : Card) : List Card := L.take (placeF (abF ps c) L L.length) ++ c :: L.drop (placeF (abF ps c) L L.length)
def listF (ps : List (Nat × Int)) (cs : List Card) : List Card := cs.foldl (insF ps) []
theorem placeF_le (ab : Card → Bool) (L : List Card) : ∀ p, placeF ab L p ≤ p
  | 0 => Nat.le_refl _
  | p + 1 => by
    unfold placeF
    split
    · exact Nat.le_succ_of_le (placeF_le ab L p)
    · exact Nat.le_refl _
theorem insF_perm (ps : List (Nat × Int)) (L : List Card) (c : Card) : (insF ps L c).Perm (c :: L) := by
  unfold insF
  refine List.perm_middle.trans (List.Perm.cons _ ?_)
  rw [List.take_append_drop]
theorem listF_perm (ps : List (Nat × Int)) (cs : List Card) : (listF ps cs).Perm cs := by
  have : ∀ (cs L : List Card), (cs.foldl (insF ps) L).Perm (L ++ cs) := by
    intro cs
    induction cs with
    | nil => intro L; simp
    | cons c cs ih =>
      intro L
      refine (ih _).trans ?_
      refine ((insF_perm ps L c).append_right cs).trans ?_
      exact (List.perm_middle (l₁ := L) (a := c) (l₂ := cs)).symm
  have := this cs []
  simpa [listF] using this
theorem dCard_row {ms : List Int} {c : Card} : dCard ms c = .tuple [dRow c.1, dInts (wordOf ms c.2)] := rfl
theorem varList {X : List Addr} {env : Env} {h : Heap} {nm : Str} {D : Addr} {vs : List Value} {ds : List PyData} (l : Look env h nm (.ref D)) (p : h.PlainList D (List.toArray vs)) (DX : D ∉ X) (r : RpL (D :: X) h vs ds) : Var X env h nm (.list ds) := ⟨_, l, Rp.list p.isList DX r.tail⟩
section
variable {G : Gl} {A : Around} {h₁ : Heap} {X : List Addr} {k : Nat} {env : Env} {K : Frag}
theorem ev_above {e1 e2 : Expr} {nm : Str} {np p pos : Pos} {x : Addr} {ps : List (Nat × Int)} {a b : List Int} (W : Wd (KH G.w) G.Bs) (g : Go G (k + 2) A h₁) (hX : Al X h₁) (l : Look env h₁ nm (.ref x)) (t : TC X h₁ x ps) (r1 : Ev G A env h₁ X e1 (dRow a)) (r2 : Ev G A env h₁ X e2 (dRow b)) (hps : ∀ p ∈ ps, p.1 < a.length ∧ p.1 < b.length) (hl : a.length ≤ 4) (hl2 : b.length ≤ 4) (hw : ∀ p ∈ ps, p.2 = 1 ∨ p.2 = -1)
    (hkn : env.kindOf "_law_above" = some .globalImplicit := by rfl) (hg : env.globals = mainGlobals := by rfl) (hk : env.scope.kind = .function := by rfl) (hd : (nm == ("__debug__" : Str)) = false := by decide)
    (hs : starEach [.Name nm np, e1, e2] env = (false, eval (.Name nm np) env) :: starEach [e1, e2] env := by rfl) (hs1 : starEach [e1, e2] env = (false, eval e1 env) :: starEach [e2] env := by rfl) (hs' : starEach [e2] env = (false, eval e2 env) :: starEach [] env := by rfl) :
    Ev G A env h₁ X (.Call (.Name "_law_above" p) [.Name nm np, e1, e2] [] pos) (.bool (decide (0 < cmpF ps a b))) :=
  ev_call (ev_glob W g.base (g_above _) hg hk hkn) g.base (W.K 83 _ rfl) rfl (arV_cons (evV_name l hk hd) (ar_cons r1 (ar_cons r2 ar_nil hs') hs1) hs) (fun vs h2 k2 r => by
    obtain ⟨vs', rfl, r⟩ := r
    obtain ⟨u, v, rfl, q1, q2⟩ := r.two
    exact above_spec W (g.later k2) (hX.keep k2) (t.keep k2) q1 q2 hps hl hl2 hw) hs
theorem listing_spec (W : Wd (KH G.w) G.Bs) (g : Go G (k + 3) A h₁) (hX : Al X h₁) {cs : List Card} {ms : List Int} {ps : List (Nat × Int)} {x : Addr} {n : Nat} (hc : cs.length ≤ 16) (hn : n ≤ 4) (hrow : ∀ c ∈ cs, c.1.length = n) (hps : ∀ p ∈ ps, p.1 < n) (hw : ∀ p ∈ ps, p.2 = 1 ∨ p.2 = -1) {v1 : Value} (t : TC X h₁ x ps) (r1 : Rp X h₁ v1 (dCards ms cs)) :
    Does G A h₁ (call (.ref 90) [v1, .ref x]) (fun h v => Rp X h v (dCards ms (listF ps cs))) := by
  refine call_def ["cards", "comp"] g W (W.K 90 _ rfl) rfl rfl rfl rfl rfl rfl rfl (by decide) rfl ?_
  intro s₀ h tk k₀ F P g'
  have kh := k₀.trans F.keep
  have V1 : Var X _ h "cards" (dCards ms cs) := ⟨v1, P _ (.head _), r1.keep kh⟩
  have L2 : Look _ h "comp" (.ref x) := P _ (.tail _ (.head _))
  have hXh := hX.keep kh
  have ap := F.ap
  refine st_new (X := X) F ⟨_, rfl⟩ hXh fun D h2 tk2 nD nDs DX c2 F2 vp2 p2 hX2 => ?_
  have t0 : TC (D :: X) s₀.heap x ps := (t.keep k₀).fresh nDs
  have V12 := c2.var ap (by decide) nosub (V1.fresh nD)
  have L22 := c2.look ap (by decide) L2
  have DD : ∀ y ∈ [D], y ∈ D :: X := fun y m => by rw [List.mem_singleton.mp m]; exact List.mem_cons_self
  refine st_for (X := D :: X) (Y := [D]) (ds := cs.map (dCard ms)) ["card", "place"] F2 g'.hd hX2 DD (fun y m => by rw [List.mem_singleton.mp m]; exact nDs) (it_list g'.hd (ev_name V12 rfl)) (fun y hy => ?_) (fun _ _ => trivial)
    (fun i h => Look _ h "listing" (.ref D) ∧ Look _ h "comp" (.ref x) ∧ ∃ vs, h.PlainList D (List.toArray vs) ∧ RpL (D :: X) h vs ((listF ps (cs.take i)).map (dCard ms))) ⟨vp2, L22, [], p2, RpL.nil⟩ ?_ ?_
  · rw [List.mem_singleton.mp hy]; exact ⟨by decide, _, rfl⟩
  · intro i d hi hc' tk3 E' ed Ji stl Fc alc tv
    rw [List.getElem?_map] at ed
    obtain ⟨c, ec, rfl⟩ := Option.map_eq_some_iff.mp ed
    obtain ⟨lp, lc, vs, pl, rl⟩ := Ji
    have lp3 := stl.look ap (by decide) lp
    have lc3 := stl.look ap (by decide) lc
    have pl3 := stl.plain pl
    have rl3 := stl.rpL rl
    have vc : Var (D :: X) _ hc' "card" (dCard ms c) := tv
    have nx : listF ps (cs.take (i + 1)) = insF ps (listF ps (cs.take i)) c := by
      rw [List.take_add_one, ec]; simp [listF, List.foldl_append]
    have prm := listF_perm ps (cs.take i)
    have bl : (listF ps (cs.take i)).length ≤ 16 := by
      rw [prm.length_eq, List.length_take]; omega
    have rows : ∀ d ∈ listF ps (cs.take i), d.1.length = n := fun d hd => hrow d (List.mem_of_mem_take (prm.mem_iff.mp hd))
    have rowc : c.1.length = n := hrow c (List.mem_of_getElem? ec)
    generalize hL : listF ps (cs.take i) = L at *
    have gc := g.at k₀ Fc
    refine st_let (X := X) Fc (ev_len W gc.base (g_len _) (ev_name (varList (ds := L.map (dCard ms)) lp3 pl3 DX rl3) rfl) (by rw [List.length_map]; omega)) ⟨_, rfl⟩ fun h4 tk4 c4 F4 vpl => ?_
    rw [List.length_map] at vpl
    have lv : vs.length = L.length := by have := rl3.length; rwa [List.length_map] at this
    refine st_while F4 (fun m h => ∃ p, Chg G.Bs _ ["place"] [] hc' h ∧ Var X _ h "place" (.int (p : Nat)) ∧ m = p ∧ p ≤ L.length ∧ placeF (abF ps c) L p = placeF (abF ps c) L L.length) _ ⟨L.length, c4, vpl, rfl, Nat.le_refl _, rfl⟩ ?_
    rintro p h5 E'' ⟨_, c5, vp5, rfl, hpl, epl⟩ F5
    have g5 := g.at k₀ F5
    have lp5 := c5.look ap (by decide) lp3
    have lc5 := c5.look ap (by decide) lc3
    have pl5 := c5.plain pl3 (fun q => nomatch q)
    have rl5 := c5.rpL rl3
    have vc5 := c5.var ap (by decide) nosub vc
    have al5 := c5.al alc
    have alX : Al X h5 := fun a m => al5 a (List.mem_cons_of_mem _ m)
    have t5 : TC X h5 x ps := (t.keep k₀).keep F5.keep
    have VL := varList lp5 pl5 DX rl5
    refine ⟨(decide (0 < (p : Int)) && abF ps c (L.getD (p - 1) nilCard)), tr_and (tr_gt (ev_name vp5 rfl) ev_int) (fun hp => ?_), fun hb h6 tk6 k6 F6 => ?_, fun hb h6 tk6 k6 F6 => ?_⟩
    · have hp0 : 0 < p := by have := of_decide_eq_true hp; omega
      have hi : p - 1 < L.length := by omega
      have em : L.getD (p - 1) nilCard ∈ L := by rw [List.getD_eq_getElem?_getD, List.getElem?_eq_getElem hi]; exact List.getElem_mem hi
      have e1 : (L.map (dCard ms))[((p : Int) - 1).toNat]? = some (dCard ms (L.getD (p - 1) nilCard)) := by
        rw [show ((p : Int) - 1).toNat = p - 1 by omega, List.getElem?_map, List.getD_eq_getElem?_getD, List.getElem?_eq_getElem hi]; rfl
      refine tr_ev (X := X) (ev_above W g5 alX lc5 t5 (ev_itemT (i := 0) (j := 0) (ev_item (ev_name VL rfl) (ev_sub (ev_name vp5 rfl) ev_int) (by omega) (by omega) e1) ev_int (by decide) (by decide) rfl rfl) (ev_itemT (i := 0) (j := 0) (ev_name vc5.tail rfl) ev_int (by decide) (by decide) rfl rfl) (fun q m => ?_) ?_ ?_ hw)
      · rw [rows _ em, rowc]; exact ⟨hps q m, hps q m⟩
      · rw [rows _ em]; exact hn
      · rw [rowc]; exact hn
    · obtain ⟨hp, hab⟩ := Bool.and_eq_true_iff.mp hb
      have hp0 : 0 < p := by have := of_decide_eq_true hp; omega
      obtain ⟨p', rfl⟩ : ∃ p', p = p' + 1 := ⟨p - 1, by omega⟩
      refine st_let (X := X) (d := .int (p' : Nat)) F6 (ev_is (ev_sub (ev_name (vp5.keep k6) rfl) ev_int) (by congr 1; omega)) ⟨_, rfl⟩ fun h7 tk7 c7 F7 vp7 => ?_
      refine wpAny_execs_nil ⟨p', h7, tk7, by omega, rfl, ⟨p', ((c5.trans (Chg.ofKp k6)).trans c7).sub (by decide) (fun _ q => nomatch q), vp7, rfl, by omega, ?_⟩, F7⟩
      rw [← epl]
      show _ = placeF (abF ps c) L (p' + 1)
      have hab' : abF ps c (L.getD p' nilCard) = true := hab
      rw [placeF, if_pos hab']
    · have fin : placeF (abF ps c) L L.length = p := by
        rw [← epl]
        cases p with
        | zero => rfl
        | succ p' =>
          have hab : abF ps c (L.getD p' nilCard) = false := by
            have : decide (0 < ((p' + 1 : Nat) : Int)) = true := decide_eq_true (by omega)
            rw [this, Bool.true_and] at hb
            exact hb
          rw [placeF, if_neg (by rw [hab]; decide)]
      have vp6 := vp5.keep k6
      have vc6 := vc5.keep k6
      have lp6 := lp5.keep k6
      have pl6 := k6.plain pl5
      refine wpAny_execs_cons (wpAny_Expr ?_ (by rfl) (by rfl))
      refine meth (evV_name lp6 rfl) pl6 (arR_cons (ev_name vp6 rfl) (ar_cons (X := D :: X) (ev_name vc6 rfl) ar_nil)) PySem.F.slot_list_insert PySem.F.type_list_insert (fun ws h7 tk7 k7 r => ?_)
      obtain ⟨u, ws', rfl, ru, rw'⟩ := r
      obtain ⟨tu, rfl⟩ := ru.ofInt
      obtain ⟨y, ws'', rfl, ry, rn⟩ := rw'.cons_inv
      rw [rn.nil_inv]
      refine do_insert (env := F.env) (k7.plain pl6) (by omega) (by rw [Int.toNat_natCast, List.size_toArray]; omega) (by rw [List.size_toArray]; omega) fun h8 pl8 ch8 => ?_
      rw [Int.toNat_natCast] at pl8
      have k67 := k6.trans k7
      have ch : Chg G.Bs _ ["card", "place"] [D] hc' h8 := (c5.trans ((Chg.ofKp k67).trans ch8)).sub (by decide) (by intro y m; simpa using m)
      refine wpAny_execs_nil ⟨h8, tk7, rfl, ch, ch.look ap (by decide) lp3, ch.look ap (by decide) lc3, vs.take p ++ y :: vs.drop p, by have e : List.take (vs.length - p) (List.drop p vs) = List.drop p vs := List.take_of_length_le (by simp); simpa [e] using pl8, ?_⟩
      rw [nx, insF, fin]
      have sD : Stays (D :: X) h7 h8 := ch8.stays DD
      rw [List.map_append, List.map_cons, List.map_take, List.map_drop]
      have rl7 := (rl5.keep k67).stays sD
      exact RpL.append (rl7.take p) (RpL.cons (ry.stays sD) (rl7.drop p))
  · intro hn' he tk4 Jn stl ce Fe
    obtain ⟨lp, lc, vs, pl, rl⟩ := Jn
    rw [List.length_map, List.take_length] at rl
    exact ret_ev Fe (ev_name ⟨_, stl.look ap (by decide) lp, Rp.list (stl.plain pl).isList DX (stl.rpL rl).tail⟩ rfl)
end
end Mine
namespace Mine
section
variable {G : Gl} {A : Around} {env : Env} {h₁ : Heap} {X : List Addr} {pos p : Pos} {value slice : Expr} {lower upper : Option Expr} {lo hi : Option Int} {ds ds' : List PyData}
/-- a cut of any list value -/
theorem ev_sliceT (hX : Al X h₁) (hv : Ev G A env h₁ X value (.list ds)) (hl : Pt G A env h₁ lower lo) (hu : Pt G A env h₁ upper hi) (hp : ∀ h vs, RpL X h vs ds → RpL X h (slicePick vs.toArray lo hi none).toList ds') (hsz : ds.length ≤ sizeLine) :
    Ev G A env h₁ X (.Subscript value (.Slice lower upper none p) pos) (.list ds') := by
  intro s Q E k hQ
  refine Subscript_ (hv s _ E k fun v h2 tk2 k2 r => ?_)
  obtain ⟨a, vs, rfl, hx, il, rl⟩ := r.ofList
  refine wpAny_Slice (hl _ _ E (k.trans k2) fun vl h3 tk3 k3 r3 => hu _ _ E (k.trans (k2.trans k3)) fun vu h4 tk4 k4 r4 => ?_)
  refine wpAny_pure ?_
  dsimp only
  have k34 := k3.trans k4
  have kp5 : Kp G.Bs h4 (h4.push { cls := .type "slice", data := .fields #[vl, vu, .none] }) := Kp.push _
  have il4 := k34.list il
  have il5 := kp5.list il4
  refine tail_any il5.typeIs slot_list_getitem.lookup (wpAny_getItem_list_slice il5 (Heap.IsSliceOf.new ..) r3 r4 .none (by simp) ?_ (by rw [List.size_toArray, rl.length]; exact hsz)) rfl
  have kp6 : Kp G.Bs (h4.push { cls := .type "slice", data := .fields #[vl, vu, .none] }) ((h4.push { cls := .type "slice", data := .fields #[vl, vu, .none] }).push { cls := .type "list", data := .seq (slicePick vs.toArray lo hi none) }) := Kp.push _
  have kall := k2.trans (k34.trans (kp5.trans kp6))
  have nn : h₁.get? (h4.push { cls := .type "slice", data := .fields #[vl, vu, .none] }).objs.size = none := none_of_kp (k.trans (k2.trans (k34.trans kp5))) (none_ge (Nat.le_refl _))
  exact hQ _ _ _ kall (Rp.list (vs := (slicePick vs.toArray lo hi none).toList) ⟨_, Heap.get?_push_size _ rfl, rfl, 0, rfl⟩ (hX.outOf nn) (hp _ vs (rl.keep (k34.trans (kp5.trans kp6)))))
/-- a list turned round -/
theorem ev_rev {st : Expr} (hX : Al X h₁) (hv : Ev G A env h₁ X value (.list ds)) (hs : Ev G A env h₁ X st (.int (-1))) (hsz : ds.length ≤ sizeLine) :
    Ev G A env h₁ X (.Subscript value (.Slice none none (some st) p) pos) (.list ds.reverse) := by
  intro s Q E k hQ
  refine Subscript_ (hv s _ E k fun v h2 tk2 k2 r => ?_)
  obtain ⟨a, vs, rfl, hx, il, rl⟩ := r.ofList
  refine wpAny_Slice (wpAny_pure (wpAny_pure (hs _ _ E (k.trans k2) fun vst h4 tk4 k4 r4 => ?_)))
  obtain ⟨t, rfl⟩ := r4.ofInt
  dsimp only
  have kp5 : Kp G.Bs h4 (h4.push { cls := .type "slice", data := .fields #[.none, .none, .int (-1) t] }) := Kp.push _
  have il4 := k4.list il
  have il5 := kp5.list il4
  refine tail_any il5.typeIs slot_list_getitem.lookup (wpAny_getItem_list_slice il5 (Heap.IsSliceOf.new ..) .none .none (.int (-1) t) (by simp) ?_ (by rw [List.size_toArray, rl.length]; exact hsz)) rfl
  rw [krv_pick]
  have kp6 : Kp G.Bs (h4.push { cls := .type "slice", data := .fields #[.none, .none, .int (-1) t] }) ((h4.push { cls := .type "slice", data := .fields #[.none, .none, .int (-1) t] }).push { cls := .type "list", data := .seq vs.toArray.toList.reverse.toArray }) := Kp.push _
  have kall := k2.trans (k4.trans (kp5.trans kp6))
  have nn : h₁.get? (h4.push { cls := .type "slice", data := .fields #[.none, .none, .int (-1) t] }).objs.size = none := none_of_kp (k.trans (k2.trans (k4.trans kp5))) (none_ge (Nat.le_refl _))
  exact hQ _ _ _ kall (Rp.list (vs := vs.reverse) ⟨_, Heap.get?_push_size _ rfl, rfl, _, rfl⟩ (hX.outOf nn) ((rl.keep (k4.trans (kp5.trans kp6))).reverse))
/-- the last item of a list -/
theorem ev_last {d : PyData} (hv : Ev G A env h₁ X value (.list ds)) (hs : Ev G A env h₁ X slice (.int (-1))) (hn : ds.length < 2 ^ 61) (hd : ds[ds.length - 1]? = some d)
    (hsub : ∀ a u, subscripted slice false (.ref a) (.int (-1) u) = operate [.ref a, .int (-1) u] (getItem (.ref a) (.int (-1) u)) := by intro _ _; with_unfolding_all rfl) : Ev G A env h₁ X (.Subscript value slice pos) d :=
  does_two (op := fun o i => subscriptTail value slice o i) hv hs rp_mono (fun u v h k ru rv s Q E hk hQ => by
    obtain ⟨a, vs, rfl, hx, hl, rl⟩ := (ru.keep hk).ofList
    obtain ⟨t, rfl⟩ := rv.ofInt
    obtain ⟨y, ey, ry⟩ := rl.get' hd
    have hlt : ds.length - 1 < ds.length := (List.getElem?_eq_some_iff.mp hd).1
    have hsz : vs.toArray.size = ds.length := by rw [List.size_toArray, rl.length]
    refine tail_any hl.typeIs slot_list_getitem.lookup (wpAny_getItem_list_neg hl (by decide) (by rw [hsz]; omega) (by decide) ?_ (hQ y s.heap s.toks (Kp.refl _) ry)) (hsub _ _)
    rw [hsz, show ((-1 : Int) + (ds.length : Nat)).toNat = ds.length - 1 by omega]
    simpa using ey) fun h => Subscript_ h
end
end Mine
namespace Mine
section
variable {G : Gl} {A : Around} {R : Result → Shared → Prop} {s : Shared} {E : Value → Shared → Prop} {elt t1 t2 i1 i2 c2 : Expr} {scope : Scope} {pos : Pos} {it acc : Value} {env : Env}
abbrev two (elt t1 i1 t2 i2 c2 : Expr) (scope : Scope) (pos : Pos) : Expr := .ListComp elt [⟨t1, i1, [], 0⟩, ⟨t2, i2, [c2], 0⟩] scope pos
theorem turn_in : compTurn (two elt t1 i1 t2 i2 c2 scope pos) 1 it acc env = (do
      standAt i2.pos
      match ← pyNext it with
      | none => pure (.done .next)
      | some v =>
        letOwnedTupleGo t2 it v
        assign t2 env v
        let mut ok := true
        for c in [c2] do
          if ok then ok ← isTrue c env (eval c env)
        if ok then
          (do let _ ← call (.builtin "list.append") [acc, ← eval elt env])
        again (.compLoop (two elt t1 i1 t2 i2 c2 scope pos) 1 it acc env)) := rfl
theorem turn_out : compTurn (two elt t1 i1 t2 i2 c2 scope pos) 0 it acc env = (do
      standAt i1.pos
      match ← pyNext it with
      | none => pure (.done .next)
      | some v =>
        letOwnedTupleGo t1 it v
        assign t1 env v
        let x ← eval i2 env
        standAt i2.pos
        let x ← foldedSetIterable i2 env x
        let _ ← runOwn (.compStart (two elt t1 i1 t2 i2 c2 scope pos) 1 (← holding [x] (pyIter x)) acc env) env
        again (.compLoop (two elt t1 i1 t2 i2 c2 scope pos) 0 it acc env)) := rfl
theorem loop_in (I : Nat → Shared → Prop)
    (turn : ∀ n s, I n s → ∀ F : Value → Shared → Prop, wpAny (model G.prog G.w) A (pyNext it) (fun r s₁ => match r with
      | none => R (.ok .next) s₁
      | some v => wpAny (model G.prog G.w) A (letOwnedTupleGo t2 it v) (fun _ s₁' => wpAny (model G.prog G.w) A (assign t2 env v) (fun _ s₂ =>
          wpAny (model G.prog G.w) A (isTrue c2 env (eval c2 env)) (fun ok s₃ => ok = false ∧ ∃ m, m < n ∧ I m s₃) F s₂) F s₁') F s₁) F s)
    (n : Nat) (h : I n s) : codeAny (model G.prog G.w) A (.compLoop (two elt t1 i1 t2 i2 c2 scope pos) 1 it acc env) R s := by
  refine codeAny_loop rfl I (fun n s hI => ?_) n h
  show wpAny _ A ((compTurn (two elt t1 i1 t2 i2 c2 scope pos) 1 it acc env).onRaise (fun x => do noteFrame x env; theTreesLotGoes x)) _ _ s
  refine wpAny_noted ?_
  rw [turn_in]
  refine wpAny_bind (wpAny_standAt (wpAny_bind (wpAny_mono (turn n s hI _) (fun r s₁ h₁ => ?_) fun _ _ h' => h')))
  cases r with
  | none => exact wpAny_pure h₁
  | some v =>
    refine wpAny_bind (wpAny_mono h₁ (fun _ s₁' h₁' => ?_) fun _ _ h' => h')
    refine wpAny_bind (wpAny_mono h₁' (fun _ s₂ h₂ => ?_) fun _ _ h' => h')
    refine wpAny_bind (wpAny_tests_one (wpAny_mono h₂ (fun ok s₃ h₃ => ?_) fun _ _ h' => h'))
    obtain ⟨rfl, h₃⟩ := h₃
    exact wpAny_pure ⟨rfl, h₃⟩
theorem loop_out (I : Nat → Shared → Prop) (hs : ∀ x, foldedSetIterable i2 env x = pure x)
    (turn : ∀ n s, I n s → ∀ F : Value → Shared → Prop, wpAny (model G.prog G.w) A (pyNext it) (fun r s₁ => match r with
      | none => R (.ok .next) s₁
      | some v => wpAny (model G.prog G.w) A (letOwnedTupleGo t1 it v) (fun _ s₁' => wpAny (model G.prog G.w) A (assign t1 env v) (fun _ s₂ =>
          wpAny (model G.prog G.w) A (eval i2 env) (fun x s₃ => wpAny (model G.prog G.w) A (pyIter x) (fun it' s₄ =>
            codeAny (model G.prog G.w) A (.compStart (two elt t1 i1 t2 i2 c2 scope pos) 1 it' acc env) (fun r s' => match r with | .ok _ => ∃ m, m < n ∧ I m s' | .error _ => False) s₄) F s₃) F s₂) F s₁') F s₁) F s)
    (n : Nat) (h : I n s) : codeAny (model G.prog G.w) A (.compLoop (two elt t1 i1 t2 i2 c2 scope pos) 0 it acc env) R s := by
  refine codeAny_loop rfl I (fun n s hI => ?_) n h
  show wpAny _ A ((compTurn (two elt t1 i1 t2 i2 c2 scope pos) 0 it acc env).onRaise (fun x => do noteFrame x env; theTreesLotGoes x)) _ _ s
  refine wpAny_noted ?_
  rw [turn_out]
  refine wpAny_bind (wpAny_standAt (wpAny_bind (wpAny_mono (turn n s hI _) (fun r s₁ h₁ => ?_) fun _ _ h' => h')))
  cases r with
  | none => exact wpAny_pure h₁
  | some v =>
    refine wpAny_bind (wpAny_mono h₁ (fun _ s₁' h₁' => ?_) fun _ _ h' => h')
    refine wpAny_bind (wpAny_mono h₁' (fun _ s₂ h₂ => ?_) fun _ _ h' => h')
    refine wpAny_bind (wpAny_mono h₂ (fun x s₃ h₃ => ?_) fun _ _ h' => h')
    refine wpAny_bind (wpAny_standAt (wpAny_bind (wpAny_of_eq (hs x) ?_)))
    refine wpAny_bind (wpAny_holding (wpAny_mono h₃ (fun it' s₄ h₄ => ?_) fun _ _ h' => h'))
    refine wpAny_bind (wpAny_runOwn ?_)
    rw [Around.mark_none]
    refine codeAny_mono h₄ fun r s' hr => ?_
    cases r with
    | ok f => exact wpAny_pure ⟨rfl, hr⟩
    | error e => exact hr.elim
theorem start_in (h0 : codeAny (model G.prog G.w) A (.compLoop (two elt t1 i1 t2 i2 c2 scope pos) 1 it acc env) R s)
    (h : wpAny (model G.prog G.w) A (pyIter it) (fun it' s' => codeAny (model G.prog G.w) A (.compLoop (two elt t1 i1 t2 i2 c2 scope pos) 1 it' acc env) R s') (notedBy (model G.prog G.w) A env fun x s' => R (.error x) s') s) :
    codeAny (model G.prog G.w) A (.compStart (two elt t1 i1 t2 i2 c2 scope pos) 1 it acc env) R s := by
  refine codeAny_of_tree ?_
  show wpAny _ _ ((compStart (two elt t1 i1 t2 i2 c2 scope pos) 1 it acc env).onRaise (fun x => do noteFrame x env; standAt theWindowsPlace)) _ _ s
  refine wpAny_notedAt ?_
  unfold compStart
  show wpAny _ _ (ask >>= _) _ _ s
  refine wpAny_bind (wpAny_askSetting (wpAny_ite ?_))
  split
  · first
      | exact wpAny_bind (wpAny_pure (wpAny_pure (And.intro rfl h0)))
      | exact wpAny_pure (And.intro rfl h0)
  · refine wpAny_bind (wpAny_rule ?_)
    show wpAny _ _ (standAt i2.pos >>= _) _ _ s
    exact wpAny_bind (wpAny_standAt (wpAny_bind (wpAny_mono h (fun it' s' h' => wpAny_pure (And.intro rfl h')) fun _ _ x => x)))
end
end Mine
namespace Mine
section
variable {G : Gl} {A : Around} {env : Env} {X : List Addr} {h₁ : Heap}
theorem ev_comp2 {elt i1 i2 c2 : Expr} {x y : Str} {px py : Pos} {scope : Scope} {cl : List (Str × Addr)} {pos : Pos} {α β : Type} {xs : List α} {ys : List β} {enc1 : α → PyData} {enc2 : β → PyData}
    (kind : scope.kind = .function) (clos : closureFor scope env = pure cl) (names : ∀ x ∈ scope.names, x.2 = .local → scope.names.lookup x.1 = some .local) (hlx : scope.names.lookup x = some .local) (hly : scope.names.lookup y = some .local) (hxy : x ≠ y)
    (hA : A.handled = none) (hX : Al X h₁) (hi : Does G A h₁ (eval i1 env) (fun h xv => Src G A h X xv (xs.map enc1)))
    (inner : ∀ C h z, z ∈ xs → Kp G.Bs h₁ h → h₁.get? C = none → Al X h → Does G A h (eval i2 (compEnvC scope (cellsFrom (C + 1) scope.names cl) C env)) (fun h xv => Src G A h X xv (ys.map enc2)))
    (test : ∀ C h z u, z ∈ xs → u ∈ ys → Kp G.Bs h₁ h → h₁.get? C = none → Al X h → Var X (compEnvC scope (cellsFrom (C + 1) scope.names cl) C env) h x (enc1 z) → Var X (compEnvC scope (cellsFrom (C + 1) scope.names cl) C env) h y (enc2 u) → Tr G A (compEnvC scope (cellsFrom (C + 1) scope.names cl) C env) h c2 false)
    (hs : ∀ x, foldedSetIterable i1 env x = pure x := by intro _; rfl) (hs2 : ∀ C x, foldedSetIterable i2 (compEnvC scope (cellsFrom (C + 1) scope.names cl) C env) x = pure x := by intro _ _; rfl) :
    Ev G A env h₁ X (two elt (.Name x px) i1 (.Name y py) i2 c2 scope pos) (.list []) := by
  intro s Q E k hQ
  rw [eval_ListComp]
  refine wpAny_comprehension_free (use := none) rfl hs clos kind names (hi s _ E k fun xv h' tk k' src => ?_)
  generalize hs1 : ({ s with heap := h', toks := tk } : Shared) = s₁
  have e1 : s₁.heap = h' := by rw [← hs1]
  have kk : Kp G.Bs h₁ s₁.heap := by rw [e1]; exact k.trans k'
  rw [← e1] at src
  refine src s₁ _ E (Kp.refl _) fun I fp Pr St h₂ tk₂ k₂ W st₂ hfp hfo hI hPr hStI hStF hStS hown => ?_
  rw [List.length_map] at W
  refine wpAny_newObj_type (hd := by size_fits) (comp_env ?_)
  dsimp only
  generalize hH3 : h₂.push { cls := .type "list", dict := none, data := .seq ([] : List Value).toArray } = h₃
  have z3 : h₃.objs.size = h₂.objs.size + 1 := by rw [← hH3, Heap.size_push]
  generalize hH4 : h₃.push { cls := .type "dict", data := .dict #[] } = h₄
  generalize hH5 : pushCells h₄ scope.names = h₅
  have k3 : ∀ b o, h₂.get? b = some o → h₃.get? b = some o := fun b o e => hH3 ▸ Heap.get?_push_of_some _ e
  have k4 : ∀ b o, h₃.get? b = some o → h₄.get? b = some o := fun b o e => hH4 ▸ Heap.get?_push_of_some _ e
  have k5 : ∀ b o, h₄.get? b = some o → h₅.get? b = some o := hH5 ▸ pushCells_keeps _ _
  have k25 : ∀ b o, h₂.get? b = some o → h₅.get? b = some o := fun b o e => k5 b o (k4 b o (k3 b o e))
  have k15 : Kp G.Bs s₁.heap h₅ := k₂.trans (Kp.of k25)
  have new2 : ∀ a, h₂.objs.size ≤ a → s₁.heap.get? a = none := fun a ha => none_of_kp k₂ (none_ge ha)
  have nD : s₁.heap.get? h₂.objs.size = none := new2 _ (Nat.le_refl _)
  have nC : s₁.heap.get? h₃.objs.size = none := new2 _ (by omega)
  have hns5 : h₅.Ns h₃.objs.size (fun _ => none) := (hH4 ▸ Heap.Ns.new h₃ _ : h₄.Ns h₃.objs.size (fun _ => none)).keeps k5
  have hacc5 : h₅.IsList h₂.objs.size #[] := ⟨_, k5 _ _ (k4 _ _ (hH3 ▸ Heap.get?_push_size _ rfl)), rfl, _, rfl⟩
  have hIfp : I ∈ fp := W.sub I (List.mem_singleton.mpr rfl)
  have hIlt : I < h₂.objs.size := by obtain ⟨o, e⟩ := hfp I hIfp; exact Heap.lt_size e
  have fpOff : ∀ b ∈ fp, ∀ a, h₂.objs.size ≤ a → b ≠ a := fun b hb a ha q => by
    subst q
    by_cases q : b = I
    · subst q; exact absurd hIlt (Nat.not_lt.mpr ha)
    · obtain ⟨o, e⟩ := (hfo b hb q).1; rw [new2 b ha] at e; cases e
  generalize hC : h₃.objs.size = C at *
  generalize hD : h₂.objs.size = D at *
  have hDlt : D < C := by omega
  have hID : D ≠ I := Nat.ne_of_gt hIlt
  have hIC : C ≠ I := Nat.ne_of_gt (Nat.lt_trans hIlt hDlt)
  have hDC : D ≠ C := Nat.ne_of_lt hDlt
  have fpC : ∀ b ∈ fp, b ≠ C := fun b hb => fpOff b hb C (Nat.le_of_lt hDlt)
  have nC1 : h₁.get? C = none := none_of_kp kk nC
  have lx : (compEnvC scope (cellsFrom (C + 1) scope.names cl) C env).kindOf x = some .local := lookup_relabel_local hlx
  have ly : (compEnvC scope (cellsFrom (C + 1) scope.names cl) C env).kindOf y = some .local := lookup_relabel_local hly
  have innerC := inner C
  have testC := test C
  have hs2C := hs2 C
  have hloc : (compEnvC scope (cellsFrom (C + 1) scope.names cl) C env).locals = C := rfl
  have hkc : (compEnvC scope (cellsFrom (C + 1) scope.names cl) C env).scope.kind = .function := kind
  generalize hcenv : compEnvC scope (cellsFrom (C + 1) scope.names cl) C env = cenv at *
  have slx : slotOf cenv x = some C := by unfold slotOf; rw [lx, hloc]
  have sly : slotOf cenv y = some C := by unfold slotOf; rw [ly, hloc]
  -- a name of the block is stored: but C all stays
  have updC : ∀ {z : Str} {v : Value} {a b : Heap}, slotOf cenv z = some C → Upd cenv z v a b → Kb G.Bs (· = C) a b := fun {z v a b} sl u => (Chg.ofUpd (Bs := G.Bs) u).keep.weak fun q w => w.elim (fun ⟨n, m, e⟩ => by rw [List.mem_singleton.mp m, sl] at e; cases e; rfl) fun m => nomatch m
  have iterKb : ∀ {J : Addr} {a b : Heap}, (∀ q o, q ∉ [J] → a.get? q = some o → b.get? q = some o) → Kb G.Bs (· = J) a b := fun {J a b} w q o hq e => ⟨o, w q o (by simpa using hq) e, .refl⟩
  have loop : ∀ tk, codeAny (model G.prog G.w) A (.compLoop (two elt (.Name x px) i1 (.Name y py) i2 c2 scope pos) 0 (.ref I) (.ref D) cenv) (compPost (model G.prog G.w) A E none Q (.ref D) C) { s₁ with heap := h₅, toks := tk } := by
    intro tk0
    refine loop_out (fun kx s' => ∃ h t i, s' = { s₁ with heap := h, toks := t } ∧ i ≤ xs.length ∧ kx = xs.length + 1 - i ∧ St i h ∧ Kp G.Bs s₁.heap h ∧ h.IsList D #[] ∧ ∃ m, h.Ns C m) hs2C ?_ (xs.length + 1)
      ⟨h₅, tk0, 0, rfl, Nat.zero_le _, rfl, W.frame _ _ _ st₂ fun b _ o e => k25 b o e, k15, hacc5, _, hns5⟩
    rintro kx s' ⟨h, t, i, rfl, hile, rfl, st, kp, hl, hns⟩ F
    by_cases hlt : i < xs.length
    · refine W.item i _ _ F hlt st fun v h' t' hPv st' kb => ?_
      obtain ⟨d, ed, rd⟩ := hPr i v hPv
      rw [List.getElem?_map] at ed
      obtain ⟨z, ez, rfl⟩ := Option.map_eq_some_iff.mp ed
      have hz : z ∈ xs := List.mem_of_getElem? ez
      have kbI : Kb G.Bs (· = I) h h' := iterKb kb
      have kp' : Kp G.Bs s₁.heap h' := kbI.kp kp fun b q => by rw [q]; exact hI
      have hl' := kbI.list hID hl
      have hns' : ∃ m, h'.Ns C m := hns.imp fun m q => kbI.ns hIC q
      dsimp only
      refine own_ok (target := .Name x px) (d := enc1 z) trivial (fun elts kk pp v' Q' E' q => hown (i + 1) h' elts kk pp v' st' _ Q' E' rfl q) ?_
      refine st_assign hkc (.inl ⟨lx, by rw [hloc]; exact hns'⟩) fun h₆ t₆ u => ?_
      have kb6 := updC slx u
      have kp6 : Kp G.Bs s₁.heap h₆ := kb6.kp kp' fun b q => by rw [q]; exact nC
      have hl6 := kb6.list hDC hl'
      have ch6 : Chg G.Bs cenv [x] [] h' h₆ := Chg.ofUpd u
      have hns6 : ∃ m, h₆.Ns C m := by have := ch6.loc (by rw [hloc]; exact hns'); rwa [hloc] at this
      have st6 : St (i + 1) h₆ := W.frame _ _ _ st' fun b hb o e => kb6.ex (fpC b hb) e (hStF _ _ b o st' hb e).1
      have vx6 : Var X cenv h₆ x (enc1 z) := u.new ((rd.keep (kp' : Kp G.Bs s₁.heap h')))
      have al6 : Al X h₆ := (hX.keep kk).keep kp6
      refine innerC h₆ z hz (kk.trans kp6) nC1 al6 _ _ F (Kp.refl _) fun xv2 h₇ t₇ k7 src2 => ?_
      refine src2 _ _ F (Kp.refl _) fun I2 fp2 P2 St2 h₈ t₈ k8 W2 st8 hfp2 hfo2 hI2 hP2 hStI2 hStF2 hStS2 hown2 => ?_
      rw [List.length_map] at W2
      have k68 := k7.trans k8
      have nI2 : h₆.get? I2 = none := none_of_kp k7 hI2
      have hI2fp : I2 ∈ fp2 := W2.sub I2 (List.mem_singleton.mpr rfl)
      obtain ⟨m6, ns6⟩ := hns6
      have CneI2 : C ≠ I2 := fun q => by obtain ⟨o, _, _, e, _⟩ := ns6; rw [q, nI2] at e; cases e
      have CX : ∀ b ∈ fp2, b ≠ C := fun b hb q => by
        subst q
        obtain ⟨o, _, _, e, dd, _⟩ := k68.ns ns6
        exact (hStF2 0 h₈ b o st8 hb e).1 _ _ dd
      have lp2 : codeAny (model G.prog G.w) A (.compLoop (two elt (.Name x px) i1 (.Name y py) i2 c2 scope pos) 1 (.ref I2) (.ref D) cenv)
          (fun r s' => match r with | .ok _ => ∃ m, m < xs.length + 1 - i ∧ ∃ h t i', s' = { s₁ with heap := h, toks := t } ∧ i' ≤ xs.length ∧ m = xs.length + 1 - i' ∧ St i' h ∧ Kp G.Bs s₁.heap h ∧ h.IsList D #[] ∧ ∃ m, h.Ns C m | .error _ => False)
          { s₁ with heap := h₈, toks := t₈ } := by
        refine loop_in (fun ky s' => ∃ h t j, s' = { s₁ with heap := h, toks := t } ∧ j ≤ ys.length ∧ ky = ys.length + 1 - j ∧ St2 j h ∧ Kb G.Bs (· = C) h₇ h ∧ (∃ m, h.Ns C m) ∧ Look cenv h x v) ?_ (ys.length + 1)
          ⟨h₈, t₈, 0, rfl, Nat.zero_le _, rfl, st8, Kb.of k8, ⟨m6, k68.ns ns6⟩, u.self.keep k68⟩
        rintro ky s' ⟨g, tg, j, rfl, hjle, rfl, stj, kbj, nsj, lkj⟩ F2
        by_cases hjlt : j < ys.length
        · refine W2.item j _ _ F2 hjlt stj fun v2 g' t2' hPv2 stj' kb2 => ?_
          obtain ⟨d2, ed2, rd2⟩ := hP2 j v2 hPv2
          rw [List.getElem?_map] at ed2
          obtain ⟨u2, eu2, rfl⟩ := Option.map_eq_some_iff.mp ed2
          have hu2 : u2 ∈ ys := List.mem_of_getElem? eu2
          have kbI2 : Kb G.Bs (· = I2) g g' := iterKb kb2
          have kbj7 : Kb G.Bs (· = C) h₇ g' := fun b o hb e => by
            obtain ⟨o', e', sm⟩ := kbj b o hb e
            obtain ⟨o'', e'', sm'⟩ := kbI2 b o' (fun q => by rw [q, hI2] at e; cases e) e'
            exact ⟨o'', e'', sm.trans sm'⟩
          have kbj' : Kb G.Bs (· = C) h₆ g' := (Kb.of k7).trans kbj7
          have nsj' : ∃ m, g'.Ns C m := nsj.imp fun m q => kbI2.ns CneI2 q
          have lkj' : Look cenv g' x v := by
            rcases lkj with ⟨a, m, n, e⟩ | ⟨a, _⟩
            · exact .inl ⟨a, m, by rw [hloc] at n ⊢; exact kbI2.ns CneI2 n, e⟩
            · rw [lx] at a; rcases a with a | ⟨a, _⟩ <;> cases a
          dsimp only
          refine own_ok (target := .Name y py) (d := enc2 u2) trivial (fun elts kk pp v' Q' E' q => hown2 (j + 1) g' elts kk pp v' stj' _ Q' E' rfl q) ?_
          refine st_assign hkc (.inl ⟨ly, by rw [hloc]; exact nsj'⟩) fun g₂ tg₂ uy => ?_
          have kby := updC sly uy
          have kb6g : Kb G.Bs (· = C) h₆ g₂ := kbj'.trans kby
          have kp6g : Kp G.Bs s₁.heap g₂ := kb6g.kp kp6 fun b q => by rw [q]; exact nC
          have chy : Chg G.Bs cenv [y] [] g' g₂ := Chg.ofUpd uy
          have nsg : ∃ m, g₂.Ns C m := by have := chy.loc (by rw [hloc]; exact nsj'); rwa [hloc] at this
          have lkg : Look cenv g₂ x v := uy.look (.inr ly) hxy lkj'
          have stg : St2 (j + 1) g₂ := W2.frame _ _ _ stj' fun b hb o e => kby.ex (CX b hb) e (hStF2 _ _ b o stj' hb e).1
          have alg : Al X g₂ := (hX.keep kk).keep kp6g
          have rd7 : Rp X g' v2 (enc2 u2) := by
            refine rd2.stays fun a o vs n e dd _ => kbj7.ex (fun q => ?_) e (fun _ _ q => by rw [dd] at q; cases q)
            obtain ⟨o', _, _, e', d', _⟩ := k7.ns ns6
            rw [q, e'] at e; cases e; rw [d'] at dd; cases dd
          have vyg : Var X cenv g₂ y (enc2 u2) := uy.new rd7
          have vxg : Var X cenv g₂ x (enc1 z) := ⟨v, lkg, rd.keep kp6g⟩
          refine (testC g₂ z u2 hz hu2 (kk.trans kp6g) nC1 alg vxg vyg) _ _ F2 (Kp.refl _) fun ok g₃ tg₃ k9 e9 => ⟨e9, ys.length + 1 - (j + 1), by omega, g₃, tg₃, j + 1, rfl, hjlt, rfl, ?_, (kbj7.trans kby).trans (Kb.of k9), nsg.imp fun m q => k9.ns q, lkg.keep k9⟩
          exact W2.frame _ _ _ stg fun b hb o e => k9.ex e (hStF2 _ _ b o stg hb e).1
        · have hjn : j = ys.length := by omega
          subst hjn
          refine W2.done _ _ F2 stj fun g' t2' kb2 => ?_
          have kbI2 : Kb G.Bs (· = I2) g g' := iterKb kb2
          have kbj7 : Kb G.Bs (· = C) h₇ g' := fun b o hb e => by
            obtain ⟨o', e', sm⟩ := kbj b o hb e
            obtain ⟨o'', e'', sm'⟩ := kbI2 b o' (fun q => by rw [q, hI2] at e; cases e) e'
            exact ⟨o'', e'', sm.trans sm'⟩
          have kbj' : Kb G.Bs (· = C) h₆ g' := (Kb.of k7).trans kbj7
          refine ⟨xs.length + 1 - (i + 1), by omega, g', t2', i + 1, rfl, hlt, rfl, W.frame _ _ _ st6 fun b hb o e => kbj'.ex (fpC b hb) e (hStF _ _ b o st6 hb e).1, kbj'.kp kp6 fun b q => by rw [q]; exact nC, kbj'.list hDC hl6, nsj.imp fun m q => kbI2.ns CneI2 q⟩
      exact start_in lp2 (W2.self 0 _ _ _ st8 lp2)
    · have hin : i = xs.length := by omega
      subst hin
      refine W.done _ _ F st fun h' t' kb => ?_
      have kbI : Kb G.Bs (· = I) h h' := iterKb kb
      have kp' : Kp G.Bs s₁.heap h' := kbI.kp kp fun b q => by rw [q]; exact hI
      obtain ⟨m, hns⟩ := hns
      refine ⟨m, kbI.ns hIC hns, fun h3 s3 => ?_⟩
      have sm : ∀ b o, b ≠ C → h'.get? b = some o → h3.get? b = some o := fun b o hb e => (s3.2 b hb).trans e
      have kp3 : Kp G.Bs s₁.heap h3 := (Kb.same (Bs := G.Bs) s3).kp kp' fun b q => by rw [q]; exact nC
      have fin := hQ (.ref D) h3 t' (by rw [e1] at kp3; exact k'.trans kp3) (Rp.list (vs := []) ((kbI.list hID hl).at fun o e => sm _ o hDC e) ((hX.keep kk).outOf nD) RpL.nil)
      rw [← hs1]
      exact fin
  have lp := loop tk₂
  rw [← hcenv] at lp
  refine codeAny_compStart_list lp (W.self 0 _ _ _ (W.frame _ _ _ st₂ fun b _ o e => k25 b o e) ?_)
  exact lp
end
end Mine
namespace Mine
theorem g_parted (w : World) : nsIn (KH w) mainGlobals "_law_parted" = some (some (.ref 61)) := by rfl
theorem k_keep45 (w : World) : keepIn (KH w) (.ref 45) = true := by rfl
def preF (ns : List Int) : List Int := if 2 < ns.length then ns.take 4 else (ns ++ [7, 25, 3]).take 3
def numsF (ns : List Int) : List Nat := (preF ns).map fun x => (x.fmod 128).toNat
def markF (total : Int) : List Int := (List.range 7).map fun c => ((c : Nat) - 3 : Int) * (1 + total.fmod (10 ^ 40))
def wayF (total : Int) (c : Nat) : Int := 1 - (total.fdiv (4 * 2 ^ c)).fmod 2 * 2
def ordN (n : Nat) (total : Int) : List Nat := (orderF n total).map Int.toNat
def picksF (n : Nat) (total : Int) : List (Nat × Int) := (ordN n total).map fun c => (c, wayF total c)
def leastF (total : Int) : Int := 1 + (total + 2).fmod 4
def laidF (ps : List (Nat × Int)) (cs : List Card) : List Card := if (ps.getD (ps.length - 1) (0, 0)).2 = 1 then cs else cs.reverse
structure PlainOk (ns : List Int) (as : List Nat) (ps : List (Nat × Int)) (p : Array Nat) : Prop where
  eas : as = numsF ns
  eps : ps = picksF as.length ns.sum
  ord : orderF as.length ns.sum = (ordN as.length ns.sum).map fun c => ((c : Nat) : Int)
  ordlt : ∀ c ∈ ordN as.length ns.sum, c < as.length
  words : (cardsF as).map (·.2) = (rankedF as ps).map (·.2)
  wlt : ∀ w ∈ rankedF as ps, w.2 < 128
  nd : ∀ i j, i < (rankedF as ps).length → j < (rankedF as ps).length → ((rankedF as ps).getD i (0, 0)).1 = ((rankedF as ps).getD j (0, 0)).1 → i = j
  run : runB (rankedF as ps).length (askR (rankedF as ps)) (kas_sort (rankedF as ps).length) = some p
  rng : ∀ i ∈ p.toList, i < (rankedF as ps).length
  plen : p.toList.length ≤ 16
  same : pickF (leastF ns.sum) ((listF (ps.take (ps.length - 1)) (laidF ps (cardsF as))).map (·.2)) = pickF (leastF ns.sum) (p.toList.map fun i => ((rankedF as ps).getD i (0, 0)).2)
  dbl : Doubles (pickF (leastF ns.sum) (p.toList.map fun i => ((rankedF as ps).getD i (0, 0)).2))
theorem pre_len (ns : List Int) : 3 ≤ (preF ns).length ∧ (preF ns).length ≤ 4 := by
  unfold preF
  split
  · rw [List.length_take]; omega
  · rw [List.length_take, List.length_append]; have : ([7, 25, 3] : List Int).length = 3 := rfl; omega
theorem mark_ok (total : Int) : Ms (markF total) := by
  have hm : 0 < 1 + total.fmod (10 ^ 40) := by
    have := Int.fmod_nonneg_of_pos total (b := 10 ^ 40) (by decide)
    omega
  refine ⟨by simp [markF], ?_⟩
  unfold markF
  generalize 1 + total.fmod (10 ^ 40) = m at hm
  refine List.pairwise_map.mpr ((range_up 7).imp fun {a b} h => ?_)
  exact Int.mul_lt_mul_of_pos_right (by omega) hm
theorem way_pm (total : Int) (c : Nat) : wayF total c = 1 ∨ wayF total c = -1 := by
  unfold wayF
  have h1 := Int.fmod_nonneg_of_pos (total.fdiv (4 * 2 ^ c)) (b := 2) (by decide)
  have h2 := Int.fmod_lt_of_pos (total.fdiv (4 * 2 ^ c)) (b := 2) (by decide)
  omega
section
variable {G : Gl} {A : Around} {env : Env} {h₁ : Heap} {X : List Addr} {k : Nat}
theorem arG_cons {pos : Pos} {e : Expr} {rest : List Expr} {R1 : Heap → Value → Prop} {R : Heap → List Value → Prop} (m1 : ∀ h h' v, Kp G.Bs h h' → R1 h v → R1 h' v) (he : Does G A h₁ (eval e env) R1) (hr : Does G A h₁ (spliced (backTo pos (starEach rest env))) R)
    (hs : starEach (e :: rest) env = (false, eval e env) :: starEach rest env := by rfl) : Does G A h₁ (spliced (backTo pos (starEach (e :: rest) env))) (fun h vs => ∃ v vs', vs = v :: vs' ∧ R1 h v ∧ R h vs') := fun s Q E k hQ =>
  args_cons (he s _ E k fun v h' tk k' r => hr _ _ E (k.trans k') fun vs h'' tk' k'' r' => hQ (v :: vs) h'' tk' (k'.trans k'') ⟨v, vs, rfl, m1 _ _ _ k'' r, r'⟩) hs
theorem ev_new {e : Expr} {p pos : Pos} {ps : List (Nat × Int)} (W : Wd (KH G.w) G.Bs) (g : Go G (k + 2) A h₁) (he : Ev G A env h₁ X e (dPicks ps))
    (hkn : env.kindOf "TupleComp" = some .globalImplicit := by rfl) (hg : env.globals = mainGlobals := by rfl) (hk : env.scope.kind = .function := by rfl)
    (hs : starEach [e] env = (false, eval e env) :: starEach [] env := by rfl)
    (hc : eval (.Call (.Name "TupleComp" p) [e] [] pos) env = (do callWith pos (← eval (.Name "TupleComp" p) env) [] (backTo pos (starEach [e] env)) (backToKw pos (keywordEach [] env))) := by rfl) :
    Does G A h₁ (eval (.Call (.Name "TupleComp" p) [e] [] pos) env) (fun h u => ∃ x, u = .ref x ∧ TC X h x ps) := fun s Q E kp hQ =>
  Call_ ((ev_glob W g.base (g_tc _) hg hk hkn) s _ E kp fun v h' tk k' r => by
    subst r
    refine callWith_K (K := KH G.w) (h₀ := h') (first := []) (W.K.keeps (g.base.trans (kp.trans k')).base) (k_keep45 _) ((ar_cons he ar_nil hs) _ _ E (kp.trans k') fun vs h2 tk2 k2 r2 => ⟨W.K.keeps (g.base.trans (kp.trans (k'.trans k2))).base, ?_⟩) hs rfl
    obtain ⟨v, vs', rfl, r1, rl⟩ := r2.cons_inv
    rw [rl.nil_inv]
    exact new_spec W (g.later (kp.trans (k'.trans k2))) r1 _ Q E (Kp.refl _) fun u h3 tk3 k3 r3 => hQ u h3 tk3 (k'.trans (k2.trans k3)) r3) hc
end
end Mine
namespace Mine
theorem pick_mem (least : Int) (ws : List Nat) : ∀ w ∈ pickF least ws, w ∈ ws := by
  have : ∀ (ws ps : List Nat), ∀ w ∈ ws.foldl (pickStep least) ps, w ∈ ps ∨ w ∈ ws := by
    intro ws
    induction ws with
    | nil => intro ps w hw; exact .inl hw
    | cons v ws ih =>
      intro ps w hw
      rcases ih _ w hw with m | m
      · unfold pickStep at m
        split at m
        · rcases List.mem_append.mp m with m | m
          · exact .inl m
          · rw [List.mem_singleton.mp m]; exact .inr List.mem_cons_self
        · exact .inl m
      · exact .inr (List.mem_cons_of_mem _ m)
  intro w hw
  exact (this ws [] w hw).resolve_left (fun q => nomatch q)
theorem ev_gtT {G : Gl} {A : Around} {env : Env} {h₁ : Heap} {X : List Addr} {l r : Expr} {pos : Pos} {a b : Int} {c : Bool} (hl : Ev G A env h₁ X l (.int a)) (hr : Ev G A env h₁ X r (.int b)) (hc : decide (b < a) = c) : Tr G A env h₁ (.Compare l [.Gt] [r] pos) c := hc ▸ tr_gt hl hr
section
variable {G : Gl} {A : Around} {k : Nat}
theorem law_body {fd : FuncData} {o : Obj} (he : (KH G.w).lookup 117 = some o) (hfd : o.data = .func fd) {body : List Stmt} (hbd : fd.body = .stmts body) {L a : Addr} {cd : Value} {s₀ : Shared} {h : Heap} {tk : Nat} {E : Value → Shared → Prop}
    (W : Wd (KH G.w) G.Bs) (g : Go G (k + 4) A s₀.heap) (F : Fn G s₀ (envOfC fd.name fd.scope L a cd) h) {v : Value} {ns : List Int} (ls : Look (envOfC fd.name fd.scope L a cd) h "script" v) (r : Rp [] s₀.heap v (dInts ns)) (hns : ns.length ≤ 63)
    {as : List Nat} {ps : List (Nat × Int)} {p : Array Nat} (pk : PlainOk ns as ps p) :
    wpAny (model G.prog G.w) (A.deeper (envOfC fd.name fd.scope L a cd)) (execs body (envOfC fd.name fd.scope L a cd)) (Post G s₀ (fun h v => Rp [] h v (.bool true))) E { s₀ with heap := h, toks := tk } := by
  have he' : (KH G.w).lookup 117 = some _ := rfl
  rw [he'] at he
  cases he
  cases hfd
  cases hbd
  have ap := F.ap
  have k₀ : Kp G.Bs s₀.heap s₀.heap := Kp.refl _
  have al : ∀ h, Al [] h := fun h => Al.nil
  have Vs : Var [] _ h "script" (dInts ns) := ⟨v, ls, r.keep F.keep⟩
  have g0 := g.at k₀ F
  have hA := g0.hd
  obtain ⟨pl1, pl2⟩ := pre_len ns
  have has : as.length = (preF ns).length := by rw [pk.eas, numsF, List.length_map]
  -- total
  refine st_let (X := []) F (ev_sum W hA g0.base (g_sum _) (ev_name Vs rfl)) ⟨_, rfl⟩ fun h1 tk1 c1 F1 vt1 => ?_
  have Vs1 := c1.var ap (by decide) nosub Vs
  have g1 := g.at k₀ F1
  -- numbers
  refine st_letComp (X := []) (xs := preF ns) (enc := .int) F1 (fun _ => true) (fun x => .int ((x.fmod 128).toNat : Nat)) (Block.locals rfl rfl (by decide) (by decide)) hA (al _) rfl (it_list hA (ev_if (b := decide (2 < (ns.length : Int))) ?c1 (fun hb => ?c2) (fun hb => ?c3))) (by rw [sizeLine_eq]; omega) ?turn fun h2 tk2 c2 F2 vn2 => ?_
  case c1 => exact ev_gtT (ev_len W g1.base (g_len _) (ev_name Vs1 rfl) (by rw [List.length_map]; omega)) ev_int (by rw [List.length_map])
  case c2 =>
    have : 2 < ns.length := by have := of_decide_eq_true hb; omega
    refine ev_is (ev_sliceT (al _) (ev_name Vs1 rfl) pt_none (pt_some (X := []) ev_int) (pick_upto 4) (by rw [List.length_map, sizeLine_eq]; omega)) ?_
    rw [preF, if_pos this, List.map_take]
  case c3 =>
    have : ¬ 2 < ns.length := by have := of_decide_eq_false hb; omega
    refine ev_is (ev_sliceT (al _) (ev_addI (ys := [7, 25, 3]) (al _) (ev_name Vs1 rfl) (ev_list (al _) (ar_cons ev_int (ar_cons ev_int (ar_cons ev_int ar_nil)))) (by have : ([7, 25, 3] : List Int).length = 3 := rfl; rw [sizeLine_eq]; omega)) pt_none (pt_some (X := []) ev_int) (pick_upto 3) (by rw [List.length_map, List.length_append, sizeLine_eq]; have : ([7, 25, 3] : List Int).length = 3 := rfl; omega)) ?_
    rw [preF, if_neg this, List.map_take]
  case turn =>
    intro x hx
    refine ⟨trivial, fun C D h' kp nD nC al tv => rfl, fun C D h' hp kp nD nC al tv => ?_⟩
    refine ev_is (ev_mod (ev_name tv rfl) ev_int (by decide)) ?_
    have := Int.fmod_nonneg_of_pos x (b := 128) (by decide)
    congr 1; omega
  rw [filt_true] at vn2
  have en : (.list ((preF ns).map fun x => .int ((x.fmod 128).toNat : Nat)) : PyData) = dNats as := by rw [pk.eas, dNats, numsF, List.map_map]; rfl
  rw [en] at vn2
  have a128 : ∀ a ∈ as, a < 128 := fun a ha => by
    rw [pk.eas] at ha
    obtain ⟨x, hx, rfl⟩ := List.mem_map.mp ha
    have h1 := Int.fmod_nonneg_of_pos x (b := 128) (by decide)
    have h2 := Int.fmod_lt_of_pos x (b := 128) (by decide)
    omega
  have vt2 := c2.var ap (by decide) nosub vt1
  have g2 := g.at k₀ F2
  have eps := pk.eps
  have eord := pk.ord
  have eolt := pk.ordlt
  have esame := pk.same
  have edbl := pk.dbl
  generalize hT : ns.sum = T at *
  have hm := mark_ok T
  -- marks
  refine st_let (X := []) (d := dInts (markF T)) F2 (ev_comp' (xs := List.range 7) (enc := fun i => .int (i : Nat)) (fun _ => true) (fun c => .int (((c : Nat) - 3 : Int) * (1 + T.fmod (10 ^ 40)))) (Block.locals rfl rfl (by decide) (by decide)) hA (al _) (it_range W hA g2.base (g_range _) ev_int (by decide)) (by decide) ?t3 (by rw [filt_true, dInts, markF, List.map_map]; rfl)) ⟨_, rfl⟩ fun h3 tk3 c3 F3 vm3 => ?_
  case t3 =>
    intro c hc
    have c7 : c < 7 := List.mem_range.mp hc
    refine ⟨trivial, fun C D h' kp nD nC al tv => rfl, fun C D h' hp kp nD nC al tv => ?_⟩
    exact ev_mul (ev_sub (ev_name tv rfl) ev_int) (ev_add ev_int (ev_mod (ev_name ((vt2.fresh nD).keep kp).inner rfl) (ev_pow ev_int ev_int (by decide) (by decide) (by decide)) (by decide))) (mul_ok_left (by omega))
  generalize hMs : markF T = ms at *
  have vt3 := c3.var ap (by decide) nosub vt2
  have vn3 := c3.var ap (by decide) nosub vn2
  have g3 := g.at k₀ F3
  have wl : ∀ x, (wordOf ms x).length ≤ 1000 := fun x => by rw [wordOf_len]; have := pc_le x; omega
  -- vectors
  refine st_let (X := []) (d := dWords ms as) F3 (ev_comp' (xs := as) (enc := fun a => .int (a : Nat)) (fun _ => true) (fun a => dInts (wordOf ms a)) (Block.locals rfl rfl (by decide) (by decide)) hA (al _) (it_list hA (ev_name vn3 rfl)) (by rw [sizeLine_eq]; omega) ?t4 (by rw [filt_true]; rfl)) ⟨_, rfl⟩ fun h4 tk4 c4 F4 vv4 => ?_
  case t4 =>
    intro a ha
    refine ⟨trivial, fun C D h' kp nD nC al tv => rfl, fun C D h' hp kp nD nC al tv => ?_⟩
    have := a128 a ha
    exact ev_is (ev_places W (g3.later kp) al hm.len (ev_name tv rfl) (ev_name ((vm3.fresh nD).keep kp).inner rfl) (by omega) (by omega)) (by rw [placesF_nat])
  have vt4 := c4.var ap (by decide) nosub vt3
  have vn4 := c4.var ap (by decide) nosub vn3
  have vm4 := c4.var ap (by decide) nosub vm3
  have g4 := g.at k₀ F4
  -- all are parted
  refine st_if (b := false) F4 (tr_neSame (X := []) (d := .list []) g4 (ev_comp2 (xs := as) (ys := as) (enc1 := fun a => dInts (wordOf ms a)) (enc2 := fun a => dInts (wordOf ms a)) rfl rfl (by decide) rfl rfl (by decide) hA (al _) (it_list hA (ev_name vv4 rfl)) (fun C h' z hz kp nC al => it_list hA (ev_name (vv4.keep kp).inner rfl)) (fun C h' z u hz hu kp nC al v1 v2 => ?t5)) (ev_list (al _) ar_nil) (by decide) rfl) fun h5 tk5 k5 F5 => ?_
  case t5 =>
    have gh := g4.later kp
    refine tr_not (b := true) (tr_ev (X := []) (ev_call (ev_glob W gh.base (g_parted _)) gh.base (W.K 61 _ rfl) rfl (ar_cons (ev_name v1 rfl) (ar_cons (ev_name v2 rfl) ar_nil)) fun vs h2 k2 r => ?_))
    obtain ⟨u', v', rfl, q1, q2⟩ := r.two
    exact parted_spec W (gh.later k2) (al.keep k2) q1 q2 (wordOf_up hm _) (wordOf_up hm _) (wl _) (wl _)
  rw [if_neg (by decide)]
  refine wpAny_execs_nil ?_
  have vt5 := vt4.keep k5
  have vn5 := vn4.keep k5
  have vm5 := vm4.keep k5
  have vv5 := vv4.keep k5
  have g5 := g.at k₀ F5
  have lord : (ordN as.length T).length = as.length := by simp [ordN, orderF]
  have hps4 : ps.length = as.length := by rw [eps, picksF, List.length_map, lord]
  have hpsI : ∀ q ∈ ps, q.1 < as.length ∧ (q.2 = 1 ∨ q.2 = -1) := fun q hq => by
    rw [eps] at hq
    obtain ⟨c, hc, rfl⟩ := List.mem_map.mp hq
    exact ⟨eolt c hc, way_pm T c⟩
  -- picks
  refine st_letComp (X := []) (xs := ordN as.length T) (enc := fun c => .int (c : Nat)) F5 (fun _ => true) (fun c => dPick (c, wayF T c)) (Block.locals rfl rfl (by decide) (by decide)) hA (al _) rfl (it_list hA (ev_call (ev_glob W g5.base (g_order _)) g5.base (W.K 71 _ rfl) rfl (ar_cons (ev_len W g5.base (g_len _) (ev_name vn5 rfl) (by rw [List.length_map]; omega)) (ar_cons (ev_name vt5 rfl) ar_nil)) fun vs h' k' r => ?t6)) (by rw [sizeLine_eq]; omega) ?t7 fun h6 tk6 c6 F6 vp6 => ?_
  case t6 =>
    obtain ⟨u', v', rfl, q1, q2⟩ := r.two
    rw [List.length_map] at q1
    have := order_spec W (g5.later k') (al _) (by omega) q1 q2
    rw [eord] at this
    have e : dInts ((ordN as.length T).map fun c => ((c : Nat) : Int)) = .list ((ordN as.length T).map fun c => .int (c : Nat)) := by rw [dInts, List.map_map]; rfl
    rw [e] at this
    exact this
  case t7 =>
    intro c hc
    have hc4 := eolt c hc
    refine ⟨trivial, fun C D h' kp nD nC al tv => rfl, fun C D h' hp kp nD nC al tv => ?_⟩
    have vtc := ((vt5.fresh nD).keep kp)
    have p2 : (0 : Int) < 2 ^ c := Int.pow_pos (by decide)
    have p3 : ((2 : Int) ^ c).natAbs < 2 ^ 8 := two_pow_abs (by omega)
    exact ev_tuple (ar_cons (ev_name tv rfl) (ar_cons (ev_sub ev_int (ev_mul (ev_mod (ev_fdiv (ev_name vtc.inner rfl) (ev_mul ev_int (ev_pow ev_int (ev_name tv rfl) (by omega) (by omega) (by decide)) (mul_ok_left (by decide))) (by omega) (pylong_small (by omega))) ev_int (by decide)) ev_int (mul_ok_right (by decide)))) ar_nil)) (show 2 ≤ sizeLine by decide)
  rw [filt_true] at vp6
  have ep : (.list ((ordN as.length T).map fun c => dPick (c, wayF T c)) : PyData) = dPicks ps := by rw [eps, dPicks, picksF, List.map_map]; rfl
  rw [ep] at vp6
  have vt6 := c6.var ap (by decide) nosub vt5
  have vn6 := c6.var ap (by decide) nosub vn5
  have vm6 := c6.var ap (by decide) nosub vm5
  have vv6 := c6.var ap (by decide) nosub vv5
  have g6 := g.at k₀ F6
  -- ranked
  refine st_let (X := []) (d := dRanked (rankedF as ps)) F6 (ev_call (ev_glob W g6.base (g_ranked _)) g6.base (W.K 102 _ rfl) rfl (ar_cons (ev_name vn6 rfl) (ar_cons (ev_name vp6 rfl) ar_nil)) fun vs h' k' r => ?t8) ⟨_, rfl⟩ fun h7 tk7 c7 F7 vr7 => ?_
  case t8 =>
    obtain ⟨u', v', rfl, q1, q2⟩ := r.two
    exact ranked_spec W (g6.later k') (al _) (by omega) (by omega) (fun q hq => ⟨(hpsI q hq).1, by have := (hpsI q hq).2; omega⟩) q1 q2
  have vt7 := c7.var ap (by decide) nosub vt6
  have vm7 := c7.var ap (by decide) nosub vm6
  have vv7 := c7.var ap (by decide) nosub vv6
  have vp7 := c7.var ap (by decide) nosub vp6
  have g7 := g.at k₀ F7
  -- cards
  refine st_let (X := []) (d := dCards ms (cardsF as)) F7 (ev_call (ev_glob W g7.base (g_cards _)) g7.base (W.K 76 _ rfl) rfl (ar_cons (ev_name vv7 rfl) ar_nil) fun vs h' k' r => ?t9) ⟨_, rfl⟩ fun h8 tk8 c8 F8 vc8 => ?_
  case t9 =>
    obtain ⟨u', vs', rfl, q1, rn⟩ := r.cons_inv
    rw [rn.nil_inv]
    exact cards_spec W (g7.later k') (al _) hm (by omega) q1
  have vt8 := c8.var ap (by decide) nosub vt7
  have vm8 := c8.var ap (by decide) nosub vm7
  have vp8 := c8.var ap (by decide) nosub vp7
  have vr8 := c8.var ap (by decide) nosub vr7
  have g8 := g.at k₀ F8
  have b16 : 2 ^ as.length ≤ 16 := Nat.le_trans (Nat.pow_le_pow_right (by decide) (show as.length ≤ 4 by omega)) (by decide)
  have b8 : 8 ≤ 2 ^ as.length := Nat.le_trans (by decide) (Nat.pow_le_pow_right (n := 2) (by decide) (show 3 ≤ as.length by omega))
  have rl : (rankedF as ps).length = 2 ^ as.length := by simp [rankedF]
  have cl := cards_len as
  -- the words are those of the numbers
  refine st_if (b := false) F8 (tr_neSame (X := []) (d := dWords ms ((cardsF as).map (·.2))) g8 ?t10 ?t11 (words_depth (fun w => wordOf ms w) _) (words_lay (fun w => wordOf ms w) _)) fun h9 tk9 k9 F9 => ?_
  case t10 =>
    refine ev_comp' (xs := cardsF as) (enc := dCard ms) (fun _ => true) (fun c => dInts (wordOf ms c.2)) (Block.locals rfl rfl (by decide) (by decide)) hA (al _) (it_list hA (ev_name vc8 rfl)) (by rw [sizeLine_eq]; omega) ?_ (by rw [filt_true, dWords, List.map_map]; rfl)
    intro c hc
    exact ⟨show ("row" : Str) ≠ "word" by decide, fun C D h' kp nD nC al tv => rfl, fun C D h' hp kp nD nC al tv => ev_name tv.2 rfl⟩
  case t11 =>
    refine ev_comp' (xs := rankedF as ps) (enc := dRank) (fun _ => true) (fun q => dInts (wordOf ms q.2)) (Block.locals rfl rfl (by decide) (by decide)) hA (al _) (it_list hA (ev_name vr8 rfl)) (by rw [sizeLine_eq]; omega) ?_ (by rw [pk.words, filt_true, dWords, List.map_map]; rfl)
    intro q hq
    refine ⟨show ("rank" : Str) ≠ "word" by decide, fun C D h' kp nD nC al tv => rfl, fun C D h' hp kp nD nC al tv => ?_⟩
    have := pk.wlt q hq
    exact ev_is (ev_places W (g8.later kp) al hm.len (ev_name tv.2 rfl) (ev_name ((vm8.fresh nD).keep kp).inner rfl) (by omega) (by omega)) (by rw [placesF_nat])
  rw [if_neg (by decide)]
  refine wpAny_execs_nil ?_
  have vt9 := vt8.keep k9
  have vm9 := vm8.keep k9
  have vp9 := vp8.keep k9
  have vr9 := vr8.keep k9
  have vc9 := vc8.keep k9
  -- least
  refine st_let (X := []) (d := .int (leastF T)) F9 (ev_add ev_int (ev_mod (ev_add (ev_name vt9 rfl) ev_int) ev_int (by decide))) ⟨_, rfl⟩ fun h10 tk10 c10 F10 vl10 => ?_
  have vm10 := c10.var ap (by decide) nosub vm9
  have vp10 := c10.var ap (by decide) nosub vp9
  have vr10 := c10.var ap (by decide) nosub vr9
  have vc10 := c10.var ap (by decide) nosub vc9
  -- laid
  have elast : (ps.map dPick)[(ps.map dPick).length - 1]? = some (dPick (ps.getD (ps.length - 1) (0, 0))) := by
    rw [List.length_map, List.getElem?_map, List.getD_eq_getElem?_getD, List.getElem?_eq_getElem (show ps.length - 1 < ps.length by omega)]; rfl
  refine st_let (X := []) (d := dCards ms (laidF ps (cardsF as))) F10 (ev_if (b := ((ps.getD (ps.length - 1) (0, 0)).2 == 1)) (tr_eqi (X := []) (ev_itemT (i := 1) (j := 1) (ev_last (ev_name vp10 rfl) (ev_neg ev_int) (by rw [List.length_map]; omega) elast) ev_int (by decide) (by decide) rfl rfl) ev_int) (fun hb => ?t12) (fun hb => ?t13)) ⟨_, rfl⟩ fun h11 tk11 c11 F11 vl11 => ?_
  case t12 =>
    have : (ps.getD (ps.length - 1) (0, 0)).2 = 1 := by simpa using hb
    rw [laidF, if_pos this]
    exact ev_name vc10 rfl
  case t13 =>
    have : ¬ (ps.getD (ps.length - 1) (0, 0)).2 = 1 := by simpa using hb
    rw [laidF, if_neg this]
    exact ev_is (ev_rev (al _) (ev_name vc10 rfl) (ev_neg ev_int) (by rw [List.length_map, sizeLine_eq]; omega)) (by rw [dCards, List.map_reverse])
  have vm11 := c11.var ap (by decide) nosub vm10
  have vp11 := c11.var ap (by decide) nosub vp10
  have vr11 := c11.var ap (by decide) nosub vr10
  have ve11 := c11.var ap (by decide) nosub vl10
  have g11 := g.at k₀ F11
  have llen : (laidF ps (cardsF as)).length ≤ 16 := by
    unfold laidF
    split
    · omega
    · rw [List.length_reverse]; omega
  have lrow : ∀ c ∈ laidF ps (cardsF as), c.1.length = as.length := fun c hc => by
    unfold laidF at hc
    split at hc
    · exact cards_row as c hc
    · exact cards_row as c (List.mem_reverse.mp hc)
  have ips : ∀ q ∈ ps.take (ps.length - 1), q.1 < as.length ∧ (q.2 = 1 ∨ q.2 = -1) := fun q hq => hpsI q (List.mem_of_mem_take hq)
  generalize hLs : listF (ps.take (ps.length - 1)) (laidF ps (cardsF as)) = Ls at *
  have lsl : Ls.length ≤ 16 := by rw [← hLs, (listF_perm _ _).length_eq]; exact llen
  -- picked
  refine st_let (X := []) (d := dWords ms (pickF (leastF T) (Ls.map (·.2)))) F11 (ev_call (ev_glob W g11.base (g_picked _)) g11.base (W.K 95 _ rfl) rfl (ar_cons (X := []) (d := dCards ms Ls) (ev_call (ev_glob W g11.base (g_listing _)) g11.base (W.K 90 _ rfl) rfl (arR_cons (X := []) (ev_name vl11 rfl) (arG_cons (R1 := fun h u => ∃ x, u = .ref x ∧ TC [] h x (ps.take (ps.length - 1))) (fun h h' u kp ⟨x, e, t⟩ => ⟨x, e, t.keep kp⟩) (ev_new W g11 ?t14) (ar_nil (X := [])))) fun vs h' k' r => ?t15) (ar_cons (ev_name ve11 rfl) ar_nil)) fun vs h' k' r => ?t16) ⟨_, rfl⟩ fun h12 tk12 c12 F12 vk12 => ?_
  case t14 => exact ev_is (ev_sliceT (al _) (ev_name vp11 rfl) pt_none (pt_some (X := []) (ev_neg ev_int)) pick_butLast (by rw [List.length_map, sizeLine_eq]; omega)) (by rw [List.length_map, dPicks, List.map_take])
  case t15 =>
    obtain ⟨u', vs', rfl, q1, u2, vs2, rfl, ⟨x, rfl, tc⟩, rn⟩ := r
    rw [rn.nil_inv, ← hLs]
    exact listing_spec W (g11.later k') (al _) llen (show as.length ≤ 4 by omega) lrow (fun q hq => (ips q hq).1) (fun q hq => (ips q hq).2) tc q1
  case t16 =>
    obtain ⟨u', v', rfl, q1, q2⟩ := r.two
    exact picked_spec W (g11.later k') (al _) hm lsl q1 q2
  have vm12 := c12.var ap (by decide) nosub vm11
  have vr12 := c12.var ap (by decide) nosub vr11
  have ve12 := c12.var ap (by decide) nosub ve11
  have g12 := g.at k₀ F12
  rw [esame] at vk12
  have pln := pick_len (leastF T) (p.toList.map fun i => ((rankedF as ps).getD i (0, 0)).2)
  rw [List.length_map] at pln
  have pml : ∀ w ∈ pickF (leastF T) (p.toList.map fun i => ((rankedF as ps).getD i (0, 0)).2), w < 128 := fun w hw => by
    obtain ⟨i, hi, rfl⟩ := List.mem_map.mp (pick_mem _ _ w hw)
    have hi' := pk.rng i hi
    refine pk.wlt _ ?_
    rw [List.getD_eq_getElem?_getD, List.getElem?_eq_getElem hi']
    exact List.getElem_mem hi'
  have pl16 := pk.plen
  -- the picked words are those due
  refine st_if (b := false) F12 (tr_neSame (X := []) (d := dWords ms (pickF (leastF T) (p.toList.map fun i => ((rankedF as ps).getD i (0, 0)).2))) g12 (ev_name vk12 rfl) (ev_comp' (xs := pickF (leastF T) (p.toList.map fun i => ((rankedF as ps).getD i (0, 0)).2)) (enc := fun w => .int (w : Nat)) (fun _ => true) (fun w => dInts (wordOf ms w)) (Block.locals rfl rfl (by decide) (by decide)) hA (al _) (it_list hA (ev_call (ev_glob W g12.base (g_due _)) g12.base (W.K 107 _ rfl) rfl (ar_cons (ev_name vr12 rfl) (ar_cons (ev_name ve12 rfl) ar_nil)) fun vs h' k' r => ?t17)) (by rw [sizeLine_eq]; omega) ?t18 (by rw [filt_true]; rfl)) (words_depth (fun w => wordOf ms w) _) (words_lay (fun w => wordOf ms w) _)) fun h13 tk13 k13 F13 => ?_
  case t17 =>
    obtain ⟨u', v', rfl, q1, q2⟩ := r.two
    exact due_spec W (g12.later k') (al _) (by omega) (by omega) pk.nd pk.run pk.rng pk.plen q1 q2
  case t18 =>
    intro w hw
    refine ⟨trivial, fun C D h' kp nD nC al tv => rfl, fun C D h' hp kp nD nC al tv => ?_⟩
    have := pml w hw
    exact ev_is (ev_places W (g12.later kp) al hm.len (ev_name tv rfl) (ev_name ((vm12.fresh nD).keep kp).inner rfl) (by omega) (by omega)) (by rw [placesF_nat])
  rw [if_neg (by decide)]
  refine wpAny_execs_nil ?_
  have g13 := g.at k₀ F13
  refine ret_ev F13 (ev_call (ev_glob W g13.base (g_doubled _)) g13.base (W.K 112 _ rfl) rfl (ar_cons (ev_name (vk12.keep k13) rfl) ar_nil) fun vs h' k' r => ?_)
  obtain ⟨u', vs', rfl, q1, rn⟩ := r.cons_inv
  rw [rn.nil_inv]
  exact doubled_spec W (g13.later k') (al _) hm (by omega) edbl q1
end
end Mine
namespace Mine
/-! words picked greedily, by places -/
def gStep (T : Nat → Bool) (P : List Nat) (k : Nat) : List Nat := if (P.filter fun q => T (q ^^^ k)).isEmpty then P ++ [k] else P
def gF (T : Nat → Bool) (ks : List Nat) : List Nat := ks.foldl (gStep T) []
theorem bit_fact : ∀ s x p : Fin 16, p.val < x.val → s.val ^^^ x.val < s.val ^^^ p.val → s.val ^^^ (x.val ^^^ p.val) < s.val := by decide +kernel
theorem bit_up : ∀ m : Fin 4, ∀ s q : Fin 16, 2 ^ m.val ≤ s.val → s.val < 2 ^ (m.val + 1) → q.val < 2 ^ m.val → 2 ^ m.val ≤ s.val ^^^ q.val ∧ s.val ^^^ q.val < 2 ^ (m.val + 1) := by decide +kernel
theorem bit_down : ∀ m : Fin 4, ∀ s q : Fin 16, 2 ^ m.val ≤ s.val → s.val < 2 ^ (m.val + 1) → 2 ^ m.val ≤ q.val → q.val < 2 ^ (m.val + 1) → s.val ^^^ q.val < 2 ^ m.val := by decide +kernel
theorem bf {s x p : Nat} (hs : s < 16) (hx : x < 16) (hp : p < 16) (h1 : p < x) (h2 : s ^^^ x < s ^^^ p) : s ^^^ (x ^^^ p) < s := bit_fact ⟨s, hs⟩ ⟨x, hx⟩ ⟨p, hp⟩ h1 h2
theorem bup {m s q : Nat} (hm : m < 4) (hs : s < 16) (hq : q < 16) (h1 : 2 ^ m ≤ s) (h2 : s < 2 ^ (m + 1)) (h3 : q < 2 ^ m) : 2 ^ m ≤ s ^^^ q ∧ s ^^^ q < 2 ^ (m + 1) := bit_up ⟨m, hm⟩ ⟨s, hs⟩ ⟨q, hq⟩ h1 h2 h3
theorem bdn {m s q : Nat} (hm : m < 4) (hs : s < 16) (hq : q < 16) (h1 : 2 ^ m ≤ s) (h2 : s < 2 ^ (m + 1)) (h3 : 2 ^ m ≤ q) (h4 : q < 2 ^ (m + 1)) : s ^^^ q < 2 ^ m := bit_down ⟨m, hm⟩ ⟨s, hs⟩ ⟨q, hq⟩ h1 h2 h3 h4
theorem p16 {m : Nat} (h : m ≤ 4) : 2 ^ m ≤ 16 := Nat.pow_le_pow_right (n := 2) (by decide) h
theorem xx (a b : Nat) : a ^^^ (a ^^^ b) = b := by rw [← Nat.xor_assoc, Nat.xor_self, Nat.zero_xor]
theorem xor_ne {s p q : Nat} (h : s ^^^ p = s ^^^ q) : p = q := by have := congrArg (s ^^^ ·) h; simpa [xx] using this
/-- what such a list is known by -/
theorem gF_uniq {T : Nat → Bool} {R : List Nat} {N : Nat} (up : R.Pairwise (· < ·)) (hlt : ∀ x ∈ R, x < N) (ok : ∀ x ∈ R, ∀ y ∈ R, y < x → T (y ^^^ x) = false) (mx : ∀ x, x < N → x ∉ R → ∃ q ∈ R, q < x ∧ T (q ^^^ x) = true) : gF T (List.range N) = R := by
  have key : ∀ n, n ≤ N → gF T (List.range n) = R.filter (· < n) := by
    intro n
    induction n with
    | zero => intro _; simp [gF]
    | succ n ih =>
      intro hn
      have ih := ih (by omega)
      have e : gF T (List.range (n + 1)) = gStep T (gF T (List.range n)) n := by
        unfold gF; rw [List.range_succ, List.foldl_append]; rfl
      rw [e, ih]
      have split : ∀ (l : List Nat), l.Pairwise (· < ·) → l.filter (· < n + 1) = l.filter (· < n) ++ (if n ∈ l then [n] else []) := by
        intro l hl
        induction hl with
        | nil => rfl
        | cons hx hr ih2 =>
          rename_i a r
          rw [List.filter_cons, List.filter_cons, ih2]
          rcases Nat.lt_trichotomy a n with q | q | q
          · have h1 : (decide (a < n + 1)) = true := decide_eq_true (by omega)
            have h2 : (decide (a < n)) = true := decide_eq_true q
            have h3 : (n ∈ a :: r) ↔ n ∈ r := by
              constructor
              · intro m; rcases List.mem_cons.mp m with e | m
                · omega
                · exact m
              · exact List.mem_cons_of_mem _
            rw [if_pos h1, if_pos h2]
            by_cases hm : n ∈ r
            · rw [if_pos hm, if_pos (h3.mpr hm)]; rfl
            · rw [if_neg hm, if_neg fun z => hm (h3.mp z)]; simp
          · subst q
            have h1 : (decide (a < a + 1)) = true := decide_eq_true (by omega)
            have h2 : ¬ (decide (a < a)) = true := by simp
            have hm : a ∉ r := fun m => by have := hx a m; omega
            have h0 : r.filter (· < a) = [] := List.filter_eq_nil_iff.mpr fun b hb => by have := hx b hb; simp; omega
            rw [if_pos h1, if_neg h2, if_neg hm, if_pos List.mem_cons_self, h0]; rfl
          · have h1 : ¬ (decide (a < n + 1)) = true := by simp; omega
            have h2 : ¬ (decide (a < n)) = true := by simp; omega
            have h3 : n ∉ r := fun m => by have := hx n m; omega
            have h4 : n ∉ a :: r := fun m => by rcases List.mem_cons.mp m with e | m; omega; exact h3 m
            rw [if_neg h1, if_neg h2, if_neg h3, if_neg h4]
      rw [split R up]
      unfold gStep
      by_cases hm : n ∈ R
      · rw [if_pos hm, if_pos]
        rw [List.isEmpty_iff, List.filter_eq_nil_iff]
        intro q hq
        obtain ⟨hqR, hqn⟩ := List.mem_filter.mp hq
        rw [ok n hm q hqR (of_decide_eq_true hqn)]; decide
      · obtain ⟨q, hq, hqn, ht⟩ := mx n (by omega) hm
        rw [if_neg hm, if_neg, List.append_nil]
        intro he
        have := List.filter_eq_nil_iff.mp (List.isEmpty_iff.mp he) q (List.mem_filter.mpr ⟨hq, decide_eq_true hqn⟩)
        exact this ht
  rw [key N (Nat.le_refl _)]
  exact List.filter_eq_self.mpr fun x hx => decide_eq_true (hlt x hx)
structure Code (T : Nat → Bool) (m : Nat) (Q : List Nat) : Prop where
  up : Q.Pairwise (· < ·)
  lt : ∀ x ∈ Q, x < 2 ^ m
  zero : ∃ r, Q = 0 :: r
  cl : ∀ x ∈ Q, ∀ y ∈ Q, x ^^^ y ∈ Q
  ok : ∀ x ∈ Q, ∀ y ∈ Q, x ≠ y → T (y ^^^ x) = false
  mx : ∀ x, x < 2 ^ m → x ∉ Q → ∃ q ∈ Q, q < x ∧ T (q ^^^ x) = true
  dbl : ∃ d, Q.length = 2 ^ d ∧ ∀ i, i < d → ∀ j, j < 2 ^ i → Q.getD (2 ^ i + j) 0 = Q.getD (2 ^ i) 0 ^^^ Q.getD j 0
theorem code_step {T : Nat → Bool} {m : Nat} {Q : List Nat} (hm : m < 4) (c : Code T m Q) : ∃ Q', Code T (m + 1) Q' := by
  have hp2 : 2 ^ (m + 1) = 2 * 2 ^ m := by rw [Nat.pow_succ]; omega
  have h16 := p16 (show m + 1 ≤ 4 by omega)
  obtain ⟨r, hz⟩ := c.zero
  have z0 : 0 ∈ Q := by rw [hz]; exact List.mem_cons_self
  have Q16 : ∀ x ∈ Q, x < 16 := fun x hx => by have := c.lt x hx; omega
  by_cases ex : ∃ s, 2 ^ m ≤ s ∧ s < 2 ^ (m + 1) ∧ ∀ q ∈ Q, T (q ^^^ s) = false
  · -- the first one
    obtain ⟨s, s1, s2, s3, s4⟩ : ∃ s, 2 ^ m ≤ s ∧ s < 2 ^ (m + 1) ∧ (∀ q ∈ Q, T (q ^^^ s) = false) ∧ ∀ x, 2 ^ m ≤ x → x < s → ∃ q ∈ Q, T (q ^^^ x) = true := by
      obtain ⟨s, h⟩ := ex
      induction s using Nat.strongRecOn with
      | _ s ih =>
        by_cases hx : ∃ x, 2 ^ m ≤ x ∧ x < s ∧ ∀ q ∈ Q, T (q ^^^ x) = false
        · obtain ⟨x, x1, x2, x3⟩ := hx
          exact ih x x2 ⟨x1, by omega, x3⟩
        · refine ⟨s, h.1, h.2.1, h.2.2, fun x x1 x2 => ?_⟩
          apply Classical.byContradiction
          intro hn
          exact hx ⟨x, x1, x2, fun q hq => by
            cases e : T (q ^^^ x) with
            | false => rfl
            | true => exact absurd ⟨q, hq, e⟩ hn⟩
    have s16 : s < 16 := by omega
    have sup : ∀ q ∈ Q, 2 ^ m ≤ s ^^^ q ∧ s ^^^ q < 2 ^ (m + 1) := fun q hq => bup hm s16 (Q16 q hq) s1 s2 (c.lt q hq)
    -- below the first one nothing fits
    have low : ∀ q ∈ Q, ¬ s ^^^ q < s := fun q hq hl => by
      obtain ⟨q', hq', ht⟩ := s4 _ (sup q hq).1 hl
      have e : q' ^^^ (s ^^^ q) = (q' ^^^ q) ^^^ s := by rw [Nat.xor_comm s q, Nat.xor_assoc]
      rw [e, s3 _ (c.cl q' hq' q hq)] at ht; cases ht
    have mono : ∀ p ∈ Q, ∀ q ∈ Q, p < q → s ^^^ p < s ^^^ q := fun p hp q hq hpq => by
      rcases Nat.lt_trichotomy (s ^^^ p) (s ^^^ q) with z | z | z
      · exact z
      · have := xor_ne z; omega
      · exact absurd (bf s16 (Q16 q hq) (Q16 p hp) hpq z) (low _ (c.cl q hq p hp))
    refine ⟨Q ++ Q.map (s ^^^ ·), ?_, ?_, ?_, ?_, ?_, ?_, ?_⟩
    · refine List.pairwise_append.mpr ⟨c.up, ?_, fun x hx y hy => ?_⟩
      · refine List.pairwise_map.mpr ?_
        exact c.up.imp_of_mem fun {p q} hp hq h => mono p hp q hq h
      · obtain ⟨q, hq, rfl⟩ := List.mem_map.mp hy
        have := c.lt x hx; have := (sup q hq).1; omega
    · intro x hx
      rcases List.mem_append.mp hx with h | h
      · have := c.lt x h; omega
      · obtain ⟨q, hq, rfl⟩ := List.mem_map.mp h; exact (sup q hq).2
    · exact ⟨r ++ Q.map (s ^^^ ·), by rw [hz]; rfl⟩
    · intro x hx y hy
      rcases List.mem_append.mp hx with h | h <;> rcases List.mem_append.mp hy with h' | h'
      · exact List.mem_append_left _ (c.cl x h y h')
      · obtain ⟨q, hq, rfl⟩ := List.mem_map.mp h'
        refine List.mem_append_right _ (List.mem_map.mpr ⟨x ^^^ q, c.cl x h q hq, ?_⟩)
        show s ^^^ (x ^^^ q) = x ^^^ (s ^^^ q)
        rw [← Nat.xor_assoc, Nat.xor_comm s x, Nat.xor_assoc]
      · obtain ⟨q, hq, rfl⟩ := List.mem_map.mp h
        refine List.mem_append_right _ (List.mem_map.mpr ⟨q ^^^ y, c.cl q hq y h', ?_⟩)
        show s ^^^ (q ^^^ y) = (s ^^^ q) ^^^ y
        rw [Nat.xor_assoc]
      · obtain ⟨q, hq, rfl⟩ := List.mem_map.mp h
        obtain ⟨q', hq', rfl⟩ := List.mem_map.mp h'
        refine List.mem_append_left _ ?_
        have e : (s ^^^ q) ^^^ (s ^^^ q') = q ^^^ q' := by rw [Nat.xor_comm s q, Nat.xor_assoc, xx]
        show (s ^^^ q) ^^^ (s ^^^ q') ∈ Q
        rw [e]; exact c.cl q hq q' hq'
    · intro x hx y hy hxy
      rcases List.mem_append.mp hx with h | h <;> rcases List.mem_append.mp hy with h' | h'
      · exact c.ok x h y h' hxy
      · obtain ⟨q, hq, rfl⟩ := List.mem_map.mp h'
        have e : (s ^^^ q) ^^^ x = (q ^^^ x) ^^^ s := by rw [Nat.xor_assoc, Nat.xor_comm]
        show T ((s ^^^ q) ^^^ x) = false
        rw [e]; exact s3 _ (c.cl q hq x h)
      · obtain ⟨q, hq, rfl⟩ := List.mem_map.mp h
        have e : y ^^^ (s ^^^ q) = (y ^^^ q) ^^^ s := by rw [Nat.xor_comm s q, Nat.xor_assoc]
        show T (y ^^^ (s ^^^ q)) = false
        rw [e]; exact s3 _ (c.cl y h' q hq)
      · obtain ⟨q, hq, rfl⟩ := List.mem_map.mp h
        obtain ⟨q', hq', rfl⟩ := List.mem_map.mp h'
        have e : (s ^^^ q') ^^^ (s ^^^ q) = q' ^^^ q := by rw [Nat.xor_comm s q', Nat.xor_assoc, xx]
        show T ((s ^^^ q') ^^^ (s ^^^ q)) = false
        rw [e]
        exact c.ok q hq q' hq' fun z => hxy (by rw [z])
    · intro x hx hxR
      by_cases hl : x < 2 ^ m
      · obtain ⟨q, hq, h1, h2⟩ := c.mx x hl fun z => hxR (List.mem_append_left _ z)
        exact ⟨q, List.mem_append_left _ hq, h1, h2⟩
      · by_cases hf : ∃ q ∈ Q, T (q ^^^ x) = true
        · obtain ⟨q, hq, ht⟩ := hf
          have := c.lt q hq
          exact ⟨q, List.mem_append_left _ hq, by omega, ht⟩
        · have x16 : x < 16 := by omega
          have xs : s ≤ x := Nat.le_of_not_lt fun z => hf (s4 x (by omega) z)
          have yl : s ^^^ x < 2 ^ m := bdn hm s16 x16 s1 s2 (by omega) hx
          have yn : s ^^^ x ∉ Q := fun z => hxR (List.mem_append_right _ (List.mem_map.mpr ⟨_, z, xx s x⟩))
          obtain ⟨p, hp, hpy, ht⟩ := c.mx _ yl yn
          have e1 : (s ^^^ p) ^^^ x = p ^^^ (s ^^^ x) := by rw [Nat.xor_comm s p, Nat.xor_assoc]
          refine ⟨s ^^^ p, List.mem_append_right _ (List.mem_map.mpr ⟨p, hp, rfl⟩), ?_, by rw [e1]; exact ht⟩
          rcases Nat.lt_trichotomy (s ^^^ p) x with z | z | z
          · exact z
          · exact absurd (by have : s ^^^ x = p := by rw [← z, xx]
                             omega) id
          · exfalso
            have h2 : s ^^^ (s ^^^ x) < s ^^^ p := by rw [xx]; exact z
            have h3 := bf s16 (by omega) (Q16 p hp) hpy h2
            have e2 : s ^^^ ((s ^^^ x) ^^^ p) = x ^^^ p := by rw [Nat.xor_assoc, xx]
            rw [e2] at h3
            have h4 := bup hm x16 (Q16 p hp) (by omega) hx (c.lt p hp)
            obtain ⟨q, hq, hqt⟩ := s4 _ h4.1 h3
            refine hf ⟨q ^^^ p, c.cl q hq p hp, ?_⟩
            have e3 : (q ^^^ p) ^^^ x = q ^^^ (x ^^^ p) := by rw [Nat.xor_assoc, Nat.xor_comm p x]
            rw [e3]; exact hqt
    · obtain ⟨d, hd, hdd⟩ := c.dbl
      refine ⟨d + 1, by rw [List.length_append, List.length_map, hd, Nat.pow_succ]; omega, fun i hi j hj => ?_⟩
      have getL : ∀ k, k < Q.length → (Q ++ Q.map (s ^^^ ·)).getD k 0 = Q.getD k 0 := fun k hk => by
        rw [List.getD_eq_getElem?_getD, List.getElem?_append_left hk, List.getD_eq_getElem?_getD]
      by_cases hid : i < d
      · have h1 : 2 ^ (i + 1) ≤ 2 ^ d := Nat.pow_le_pow_right (by decide) hid
        have h2 : 2 ^ (i + 1) = 2 * 2 ^ i := by rw [Nat.pow_succ]; omega
        rw [getL _ (by omega), getL _ (by omega), getL _ (by omega)]
        exact hdd i hid j hj
      · have : i = d := by omega
        subst this
        have getR : ∀ k, k < Q.length → (Q ++ Q.map (s ^^^ ·)).getD (2 ^ i + k) 0 = s ^^^ Q.getD k 0 := fun k hk => by
          rw [List.getD_eq_getElem?_getD, List.getElem?_append_right (by omega), List.getElem?_map, show 2 ^ i + k - Q.length = k by omega, List.getElem?_eq_getElem hk, List.getD_eq_getElem?_getD, List.getElem?_eq_getElem hk]; rfl
        have g0 := getR 0 (by have : 0 < 2 ^ i := Nat.pos_of_ne_zero (by simp); omega)
        rw [Nat.add_zero] at g0
        have q0 : Q.getD 0 0 = 0 := by rw [hz]; rfl
        rw [q0, Nat.xor_zero] at g0
        rw [getR j (by omega), g0, getL j (by omega)]
  · refine ⟨Q, c.up, fun x hx => by have := c.lt x hx; omega, c.zero, c.cl, c.ok, fun x hx hxQ => ?_, c.dbl⟩
    by_cases hl : x < 2 ^ m
    · exact c.mx x hl hxQ
    · apply Classical.byContradiction
      intro hn
      refine ex ⟨x, by omega, hx, fun q hq => ?_⟩
      cases e : T (q ^^^ x) with
      | false => rfl
      | true => have := c.lt q hq; exact absurd ⟨q, hq, by omega, e⟩ hn
theorem code_all (T : Nat → Bool) : ∀ m, m ≤ 4 → ∃ Q, Code T m Q
  | 0, _ => ⟨[0], List.pairwise_singleton _ _, fun x hx => by rw [List.mem_singleton.mp hx]; decide, ⟨[], rfl⟩, fun x hx y hy => by rw [List.mem_singleton.mp hx, List.mem_singleton.mp hy]; decide,
      fun x hx y hy h => absurd ((List.mem_singleton.mp hx).trans (List.mem_singleton.mp hy).symm) h, fun x hx hn => absurd (List.mem_singleton.mpr (by omega)) hn, ⟨0, rfl, fun i hi => absurd hi (Nat.not_lt_zero _)⟩⟩
  | m + 1, h => by
    obtain ⟨Q, c⟩ := code_all T m (by omega)
    exact code_step (by omega) c
theorem gF_code (T : Nat → Bool) {m : Nat} (hm : m ≤ 4) : Code T m (gF T (List.range (2 ^ m))) := by
  obtain ⟨Q, c⟩ := code_all T m hm
  rw [gF_uniq c.up c.lt (fun x hx y hy h => c.ok x hx y hy (by omega)) c.mx]
  exact c
end Mine
namespace Mine
/-! the tree of asks sorts, where the keys are apart -/
theorem runB_bind {α β : Type} {n : Nat} {ask : Nat → Nat → Bool} {f : α → KasT β} : ∀ (t : KasT α), runB n ask (t.bind f) = (runB n ask t).bind fun a => runB n ask (f a)
  | .ret a => rfl
  | .ask i j k => by
    show (if i < n ∧ j < n then runB n ask ((k (ask i j)).bind f) else none) = (if i < n ∧ j < n then runB n ask (k (ask i j)) else none).bind _
    by_cases h : i < n ∧ j < n
    · rw [if_pos h, if_pos h]; exact runB_bind _
    · rw [if_neg h, if_neg h]; rfl
theorem runB_ask {α : Type} {n i j : Nat} {ask : Nat → Nat → Bool} {k : Bool → KasT α} (hi : i < n) (hj : j < n) : runB n ask (.ask i j k) = runB n ask (k (ask i j)) := by
  show (if i < n ∧ j < n then runB n ask (k (ask i j)) else none) = _
  rw [if_pos ⟨hi, hj⟩]
section
variable {n : Nat} {key : Nat → Int}
abbrev asks (key : Nat → Int) : Nat → Nat → Bool := fun i j => decide (key i < key j)
def PI (n : Nat) (p : Array Nat) : Prop := p.toList.Perm (List.range n)
abbrev Kp' (key : Nat → Int) (p : Array Nat) (i : Nat) : Int := key (p.getD i 0)
def Up (key : Nat → Int) (p : Array Nat) (m : Nat) : Prop := ∀ i j, i < j → j < m → Kp' key p i < Kp' key p j
def Dn (key : Nat → Int) (p : Array Nat) (m : Nat) : Prop := ∀ i j, i < j → j < m → Kp' key p j < Kp' key p i
theorem PI.size {p : Array Nat} (h : PI n p) : p.size = n := by have := h.length_eq; simpa using this
theorem PI.get {p : Array Nat} (h : PI n p) {i : Nat} (hi : i < n) : p[i]? = some (p.getD i 0) := by
  have : i < p.size := by rw [h.size]; exact hi
  simp [Array.getD, this]
theorem PI.lt {p : Array Nat} (h : PI n p) {i : Nat} (hi : i < n) : p.getD i 0 < n := by
  have := Array.mem_of_getElem? (h.get hi)
  exact List.mem_range.mp (h.mem_iff.mp (Array.mem_toList_iff.mpr this))
theorem PI.inj {p : Array Nat} (h : PI n p) {i j : Nat} (hi : i < n) (hj : j < n) (e : p.getD i 0 = p.getD j 0) : i = j := by
  have nd : p.toList.Nodup := h.nodup_iff.mpr List.nodup_range
  have hi' : i < p.toList.length := by rw [Array.length_toList, h.size]; exact hi
  have hj' : j < p.toList.length := by rw [Array.length_toList, h.size]; exact hj
  have e1 := h.get hi
  have e2 := h.get hj
  rw [← Array.getElem?_toList] at e1 e2
  rw [List.getElem?_eq_getElem hi'] at e1
  rw [List.getElem?_eq_getElem hj'] at e2
  have : p.toList[i] = p.toList[j] := by rw [Option.some.inj e1, Option.some.inj e2, e]
  rcases Nat.lt_trichotomy i j with q | q | q
  · exact absurd this (List.pairwise_iff_getElem.mp nd i j hi' hj' q)
  · exact q
  · exact absurd this.symm (List.pairwise_iff_getElem.mp nd j i hj' hi' q)
variable (hk : ∀ i j, i < n → j < n → key i = key j → i = j)
include hk
theorem PI.apart {p : Array Nat} (h : PI n p) {i j : Nat} (hi : i < n) (hj : j < n) (ne : i ≠ j) : Kp' key p i ≠ Kp' key p j := fun e => ne (h.inj hi hj (hk _ _ (h.lt hi) (h.lt hj) e))
theorem asc_run {p : Array Nat} (hp : PI n p) : ∀ f m, 1 ≤ m → m + f = n → Up key p m → ∃ m', runB n (asks key) (kas_asc p f m) = some m' ∧ m ≤ m' ∧ m' ≤ n ∧ Up key p m' ∧ (m' < n → Kp' key p m' < Kp' key p (m' - 1))
  | 0, m, h1, hm, up => ⟨m, rfl, Nat.le_refl _, by omega, up, fun h => by omega⟩
  | f + 1, m, h1, hm, up => by
    unfold kas_asc
    rw [runB_ask (hp.lt (by omega)) (hp.lt (by omega))]
    by_cases q : key (p.getD m 0) < key (p.getD (m - 1) 0)
    · rw [if_pos (decide_eq_true q)]
      exact ⟨m, rfl, Nat.le_refl _, by omega, up, fun _ => q⟩
    · rw [if_neg (by simpa using q)]
      have ne := hp.apart hk (i := m) (j := m - 1) (by omega) (by omega) (by omega)
      have up' : Up key p (m + 1) := fun i j hij hj => by
        by_cases hjm : j = m
        · subst hjm
          by_cases hi : i = j - 1
          · subst hi; have : Kp' key p j ≠ Kp' key p (j - 1) := ne; have q' : ¬ Kp' key p j < Kp' key p (j - 1) := q; omega
          · have := up i (j - 1) (by omega) (by omega); have q' : ¬ Kp' key p j < Kp' key p (j - 1) := q; omega
        · exact up i j hij (by omega)
      obtain ⟨m', e, a, b, c, d⟩ := asc_run hp f (m + 1) (by omega) (by omega) up'
      exact ⟨m', e, by omega, b, c, d⟩
theorem desc_run {p : Array Nat} (hp : PI n p) : ∀ f m, 1 ≤ m → m + f = n → Dn key p m → ∃ m', runB n (asks key) (kas_desc f p m 0) = some (p, m', 0) ∧ m ≤ m' ∧ m' ≤ n ∧ Dn key p m'
  | 0, m, h1, hm, dn => ⟨m, rfl, Nat.le_refl _, by omega, dn⟩
  | f + 1, m, h1, hm, dn => by
    unfold kas_desc
    rw [runB_ask (hp.lt (by omega)) (hp.lt (by omega))]
    by_cases q : key (p.getD m 0) < key (p.getD (m - 1) 0)
    · rw [if_pos (decide_eq_true q), if_neg (by omega)]
      have dn' : Dn key p (m + 1) := fun i j hij hj => by
        by_cases hjm : j = m
        · subst hjm
          by_cases hi : i = j - 1
          · subst hi; exact q
          · have := dn i (j - 1) (by omega) (by omega); have q' : Kp' key p j < Kp' key p (j - 1) := q; omega
        · exact dn i j hij (by omega)
      obtain ⟨m', e, a, b, c⟩ := desc_run hp f (m + 1) (by omega) (by omega) dn'
      exact ⟨m', e, by omega, b, c⟩
    · rw [if_neg (by simpa using q), runB_ask (hp.lt (by omega)) (hp.lt (by omega))]
      have ne := hp.apart hk (i := m) (j := m - 1) (by omega) (by omega) (by omega)
      have q2 : key (p.getD (m - 1) 0) < key (p.getD m 0) := by
        have ne' : key (p.getD m 0) ≠ key (p.getD (m - 1) 0) := ne
        omega
      rw [if_pos (decide_eq_true q2)]
      exact ⟨m, rfl, Nat.le_refl _, by omega, dn⟩
theorem tail_run {p : Array Nat} (hp : PI n p) {m : Nat} (h1 : 1 ≤ m) (hm : m ≤ n) (dn : Dn key p m) : ∃ m' p', runB n (asks key) (kas_tail3 m n p) = some (m', p') ∧ PI n p' ∧ m ≤ m' ∧ m' ≤ n ∧ Up key p' m' := by
  have hp' : PI n (kas_rev p 0 m) := (Array.perm_iff_toList_perm.mp (mirror_perm p 0 m ((m - 0) / 2))).trans hp
  have g : ∀ k, k < m → (kas_rev p 0 m).getD k 0 = p.getD (m - 1 - k) 0 := fun k hk' => by
    have e := getElem?_mirror_all (xs := p) (i := 0) (j := m) (by rw [hp.size]; exact hm) k
    rw [if_pos ⟨Nat.zero_le _, hk'⟩, Nat.zero_add, hp.get (by omega)] at e
    have e2 := hp'.get (i := k) (by omega)
    have e3 : (kas_rev p 0 m)[k]? = some (p.getD (m - 1 - k) 0) := e
    rw [e2] at e3
    exact Option.some.inj e3
  have up : Up key (kas_rev p 0 m) m := fun i j hij hj => by
    show key _ < key _
    rw [g i (by omega), g j hj]
    exact dn _ _ (by omega) (by omega)
  obtain ⟨m', e, a, b, c, d⟩ := asc_run hk hp' (n - m) m h1 (by omega) up
  refine ⟨m', _, ?_, hp', a, b, c⟩
  unfold kas_tail3
  rw [runB_bind, e]; rfl
theorem count_run {p : Array Nat} (hp : PI n p) (h2 : 2 ≤ n) : ∃ m' p', runB n (asks key) (kas_count n p) = some (m', p') ∧ PI n p' ∧ 1 ≤ m' ∧ m' ≤ n ∧ Up key p' m' := by
  obtain ⟨m, e, a, b, c, d⟩ := asc_run hk hp (n - 1) 1 (Nat.le_refl _) (by omega) (fun i j hij hj => by omega)
  unfold kas_count
  rw [runB_bind, e]
  show ∃ m' p', runB n (asks key) (if (m == n) = true then _ else _) = _ ∧ _
  by_cases q : m = n
  · rw [if_pos (by simpa using q)]
    exact ⟨m, p, rfl, hp, a, b, c⟩
  · rw [if_neg (by simpa using q)]
    by_cases q1 : m > 1
    · rw [if_pos q1, runB_ask (hp.lt (by omega)) (hp.lt (by omega)), if_pos (decide_eq_true (c 0 (m - 1) (by omega) (by omega)))]
      exact ⟨m, p, rfl, hp, a, b, c⟩
    · rw [if_neg q1]
      have m1 : m = 1 := by omega
      subst m1
      have d1 := d (by omega)
      have dn : Dn key p 2 := fun i j hij hj => by
        have : i = 0 := by omega
        have : j = 1 := by omega
        subst i; subst j; exact d1
      obtain ⟨m', e', a', b', c'⟩ := desc_run hk hp (n - 2) 2 (by omega) (by omega) dn
      obtain ⟨m2, p2, e2, x1, x2, x3, x4⟩ := tail_run hk hp (by omega) b' c'
      refine ⟨m2, p2, ?_, x1, by omega, x3, x4⟩
      unfold kas_descPart
      rw [runB_bind]
      show (runB n (asks key) (kas_desc (n - 2) p 2 0)).bind _ = _
      rw [e']
      show runB n (asks key) (if 0 > 0 then _ else _) = _
      rw [if_neg (by omega)]
      exact e2
theorem place_run {p : Array Nat} (hp : PI n p) {k : Nat} (hkn : k < n) (up : Up key p k) : ∀ f l r, l ≤ r → r ≤ k → r - l ≤ f → (∀ i, i < l → Kp' key p i < Kp' key p k) → (∀ i, r ≤ i → i < k → Kp' key p k < Kp' key p i) →
    ∃ l', runB n (asks key) (kas_place p k f l r) = some l' ∧ l' ≤ k ∧ (∀ i, i < l' → Kp' key p i < Kp' key p k) ∧ (∀ i, l' ≤ i → i < k → Kp' key p k < Kp' key p i)
  | 0, l, r, h1, h2, h3, lo, hi => ⟨l, rfl, by omega, lo, fun i a b => hi i (by omega) b⟩
  | f + 1, l, r, h1, h2, h3, lo, hi => by
    unfold kas_place
    by_cases q : l ≥ r
    · rw [if_pos q]; exact ⟨l, rfl, by omega, lo, fun i a b => hi i (by omega) b⟩
    · rw [if_neg q, runB_ask (hp.lt (by omega)) (hp.lt (by omega))]
      have hmid : (l + r) / 2 < k := by omega
      by_cases c : key (p.getD k 0) < key (p.getD ((l + r) / 2) 0)
      · rw [if_pos (decide_eq_true c)]
        refine place_run hp hkn up f l ((l + r) / 2) (by omega) (by omega) (by omega) lo fun i a b => ?_
        by_cases e : i = (l + r) / 2
        · subst e; exact c
        · have := up ((l + r) / 2) i (by omega) b
          have c' : Kp' key p k < Kp' key p ((l + r) / 2) := c
          omega
      · rw [if_neg (by simpa using c)]
        have ne := hp.apart hk (i := k) (j := (l + r) / 2) hkn (by omega) (by omega)
        have c' : Kp' key p ((l + r) / 2) < Kp' key p k := by
          have ne' : key (p.getD k 0) ≠ key (p.getD ((l + r) / 2) 0) := ne
          show key _ < key _; omega
        refine place_run hp hkn up f ((l + r) / 2 + 1) r (by omega) h2 (by omega) (fun i a => ?_) hi
        by_cases e : i = (l + r) / 2
        · subst e; exact c'
        · have := up i ((l + r) / 2) (by omega) hmid
          omega
theorem bin_run : ∀ f k (p : Array Nat), PI n p → k + f = n → Up key p k → ∃ p', runB n (asks key) (kas_bin f p k) = some p' ∧ PI n p' ∧ Up key p' n
  | 0, k, p, hp, hkn, up => ⟨p, rfl, hp, by have : k = n := by omega
                                            subst this; exact up⟩
  | f + 1, k, p, hp, hkn, up => by
    have hk' : k < n := by omega
    obtain ⟨l, e, hl, lo, hi⟩ := place_run hk hp hk' up k 0 k (by omega) (Nat.le_refl _) (by omega) (fun i h => by omega) (fun i a b => by omega)
    have hp' : PI n (bubble p k (k - l)) := (Array.perm_iff_toList_perm.mp (bubble_perm p k (k - l))).trans hp
    have g : ∀ i, i < n → (bubble p k (k - l)).getD i 0 = if i = l then p.getD k 0 else if l < i ∧ i ≤ k then p.getD (i - 1) 0 else p.getD i 0 := fun i hi' => by
      have e1 := getElem?_bubble (xs := p) (src := k) (by rw [hp.size]; exact hk') (k - l) (by omega) i
      rw [show k - (k - l) = l by omega, hp'.get hi'] at e1
      by_cases q : i = l
      · rw [if_pos q, hp.get hk'] at e1; rw [if_pos q]; exact Option.some.inj e1
      · rw [if_neg q] at e1 ⊢
        by_cases q2 : l < i ∧ i ≤ k
        · rw [if_pos q2, hp.get (by omega)] at e1; rw [if_pos q2]; exact Option.some.inj e1
        · rw [if_neg q2, hp.get hi'] at e1; rw [if_neg q2]; exact Option.some.inj e1
    have up' : Up key (bubble p k (k - l)) (k + 1) := fun i j hij hj => by
      show key _ < key _
      rw [g i (by omega), g j (by omega)]
      by_cases q1 : i = l
      · rw [if_pos q1, if_neg (by omega), if_pos (by omega)]
        exact hi (j - 1) (by omega) (by omega)
      · rw [if_neg q1]
        by_cases q2 : j = l
        · rw [if_pos q2, if_neg (by omega)]
          exact lo i (by omega)
        · rw [if_neg q2]
          by_cases q3 : l < i ∧ i ≤ k
          · rw [if_pos q3, if_pos (by omega)]
            exact up _ _ (by omega) (by omega)
          · rw [if_neg q3]
            by_cases q4 : l < j ∧ j ≤ k
            · rw [if_pos q4]
              exact up _ _ (by omega) (by omega)
            · rw [if_neg q4]
              exact up _ _ hij (by omega)
    obtain ⟨p', e', x1, x2⟩ := bin_run f (k + 1) _ hp' (by omega) up'
    refine ⟨p', ?_, x1, x2⟩
    unfold kas_bin
    rw [runB_bind, e]
    exact e'
theorem sort_run (h2 : 2 ≤ n) : ∃ p, runB n (asks key) (kas_sort n) = some p ∧ PI n p ∧ Up key p n := by
  have hp : PI n (List.toArray (List.range n)) := List.Perm.refl _
  obtain ⟨m, p, e, hp', a, b, c⟩ := count_run hk hp h2
  unfold kas_sort
  rw [runB_bind, e]
  show ∃ p', runB n (asks key) (if m < n then _ else _) = some p' ∧ _
  by_cases q : m < n
  · rw [if_pos q]
    have hmx : max m 1 = m := by omega
    show ∃ p', runB n (asks key) (kas_bin (n - max m 1) p (max m 1)) = some p' ∧ _
    rw [hmx]
    exact bin_run hk (n - m) m p hp' (by omega) c
  · rw [if_neg q]
    have : m = n := by omega
    subst this
    exact ⟨p, rfl, hp', c⟩
/-- and so it gives the one rising order -/
theorem sort_is (h2 : 2 ≤ n) {ks : List Nat} (hks : ks.Perm (List.range n)) (hup : ks.Pairwise fun i j => key i < key j) : runB n (asks key) (kas_sort n) = some ks.toArray := by
  obtain ⟨p, e, hp, up⟩ := sort_run hk h2
  rw [e]
  have pw : p.toList.Pairwise fun i j => key i < key j := by
    refine List.pairwise_iff_getElem.mpr fun i j hi hj hij => ?_
    have hi' : i < n := by rw [← hp.size]; simpa using hi
    have hj' : j < n := by rw [← hp.size]; simpa using hj
    have := up i j hij hj'
    have e1 := hp.get hi'
    have e2 := hp.get hj'
    rw [← Array.getElem?_toList, List.getElem?_eq_getElem hi] at e1
    rw [← Array.getElem?_toList, List.getElem?_eq_getElem hj] at e2
    rw [Option.some.inj e1, Option.some.inj e2]; exact this
  have : p.toList = ks := (hp.trans hks.symm).eq_of_pairwise (fun a b _ _ h1 h2 => by omega) pw hup
  rw [← this]
end
end Mine
namespace Mine
/-- a sum without carrying, by the figures of a number -/
def linF (js : List Nat) (g v : Nat → Nat) (k : Nat) : Nat := js.foldr (fun j acc => (if k.testBit (g j) then v j else 0) ^^^ acc) 0
def piF (o : List Nat) (k : Nat) : Nat := linF (List.range o.length) (fun j => o.length - 1 - j) (fun j => 2 ^ (o.getD j 0)) k
def mkP (o : List Nat) (ws : List Int) : List (Nat × Int) := o.map fun c => (c, ws.getD c 1)
def sMask (o : List Nat) (ws : List Int) : Nat := o.foldl (fun a c => if ws.getD c 1 = -1 then a + 2 ^ c else a) 0
def ksF (o : List Nat) (ws : List Int) : List Nat := (List.range (2 ^ o.length)).map fun k => sMask o ws ^^^ piF o k
def rowOf (n r : Nat) : List Int := (List.range n).map fun c => ((fig r c : Nat) : Int)
def popsN (l : List Nat) : List Nat → List Nat
  | [] => []
  | i :: is => l.getD i 0 :: popsN (l.eraseIdx i) is
def waysL : Nat → List (List Int)
  | 0 => [[]]
  | n + 1 => (waysL n).flatMap fun w => [1 :: w, (-1) :: w]
def orders3 : List (List Nat) := (List.range 3).flatMap fun a => (List.range 2).map fun b => popsN [0, 1, 2] [a, b, 0]
def orders4 : List (List Nat) := (List.range 4).flatMap fun a => (List.range 3).flatMap fun b => (List.range 2).map fun c => popsN [0, 1, 2, 3] [a, b, c, 0]
def rising (f : Nat → Int) : List Nat → Bool
  | [] => true
  | [_] => true
  | a :: b :: r => decide (f a < f b) && rising f (b :: r)
def chk1 (o : List Nat) (ws : List Int) : Bool := (ksF o ws).isPerm (List.range (2 ^ o.length)) && rising (rankF (mkP o ws)) (ksF o ws)
def chk2 (o : List Nat) (ws : List Int) : Bool := (listF ((mkP o ws).take ((mkP o ws).length - 1)) (laidF (mkP o ws) ((List.range (2 ^ o.length)).map fun r => (rowOf o.length r, r)))).map (·.2) == ksF o ws
theorem rising_pw {f : Nat → Int} : ∀ {l : List Nat}, rising f l = true → l.Pairwise fun i j => f i < f j
  | [], _ => .nil
  | [a], _ => List.pairwise_singleton _ _
  | a :: b :: r, h => by
    obtain ⟨h1, h2⟩ := Bool.and_eq_true_iff.mp h
    have h1 := of_decide_eq_true h1
    have ih := rising_pw h2
    refine List.pairwise_cons.mpr ⟨fun c hc => ?_, ih⟩
    rcases List.mem_cons.mp hc with rfl | hc
    · exact h1
    · have := (List.pairwise_cons.mp ih).1 c hc; omega
theorem pw_apart {f : Nat → Int} {l : List Nat} (h : l.Pairwise fun i j => f i < f j) {i j : Nat} (hi : i ∈ l) (hj : j ∈ l) (e : f i = f j) : i = j := by
  obtain ⟨a, ha, rfl⟩ := List.getElem_of_mem hi
  obtain ⟨b, hb, rfl⟩ := List.getElem_of_mem hj
  rcases Nat.lt_trichotomy a b with q | q | q
  · have := List.pairwise_iff_getElem.mp h a b ha hb q; omega
  · subst q; rfl
  · have := List.pairwise_iff_getElem.mp h b a hb ha q; omega
end Mine
namespace Mine
def chkA (o : List Nat) (n : Nat) : Bool := (waysL n).all fun ws => chk1 o ws && chk2 o ws
theorem chk_012 : chkA [0, 1, 2] 3 = true := by decide +kernel
theorem chk_021 : chkA [0, 2, 1] 3 = true := by decide +kernel
theorem chk_102 : chkA [1, 0, 2] 3 = true := by decide +kernel
theorem chk_120 : chkA [1, 2, 0] 3 = true := by decide +kernel
theorem chk_201 : chkA [2, 0, 1] 3 = true := by decide +kernel
theorem chk_210 : chkA [2, 1, 0] 3 = true := by decide +kernel
theorem chk_0123 : chkA [0, 1, 2, 3] 4 = true := by decide +kernel
theorem chk_0132 : chkA [0, 1, 3, 2] 4 = true := by decide +kernel
theorem chk_0213 : chkA [0, 2, 1, 3] 4 = true := by decide +kernel
theorem chk_0231 : chkA [0, 2, 3, 1] 4 = true := by decide +kernel
theorem chk_0312 : chkA [0, 3, 1, 2] 4 = true := by decide +kernel
theorem chk_0321 : chkA [0, 3, 2, 1] 4 = true := by decide +kernel
theorem chk_1023 : chkA [1, 0, 2, 3] 4 = true := by decide +kernel
theorem chk_1032 : chkA [1, 0, 3, 2] 4 = true := by decide +kernel
theorem chk_1203 : chkA [1, 2, 0, 3] 4 = true := by decide +kernel
theorem chk_1230 : chkA [1, 2, 3, 0] 4 = true := by decide +kernel
theorem chk_1302 : chkA [1, 3, 0, 2] 4 = true := by decide +kernel
theorem chk_1320 : chkA [1, 3, 2, 0] 4 = true := by decide +kernel
theorem chk_2013 : chkA [2, 0, 1, 3] 4 = true := by decide +kernel
theorem chk_2031 : chkA [2, 0, 3, 1] 4 = true := by decide +kernel
theorem chk_2103 : chkA [2, 1, 0, 3] 4 = true := by decide +kernel
theorem chk_2130 : chkA [2, 1, 3, 0] 4 = true := by decide +kernel
theorem chk_2301 : chkA [2, 3, 0, 1] 4 = true := by decide +kernel
theorem chk_2310 : chkA [2, 3, 1, 0] 4 = true := by decide +kernel
theorem chk_3012 : chkA [3, 0, 1, 2] 4 = true := by decide +kernel
theorem chk_3021 : chkA [3, 0, 2, 1] 4 = true := by decide +kernel
theorem chk_3102 : chkA [3, 1, 0, 2] 4 = true := by decide +kernel
theorem chk_3120 : chkA [3, 1, 2, 0] 4 = true := by decide +kernel
theorem chk_3201 : chkA [3, 2, 0, 1] 4 = true := by decide +kernel
theorem chk_3210 : chkA [3, 2, 1, 0] 4 = true := by decide +kernel
theorem chk_all3 : ∀ o ∈ orders3, chkA o 3 = true := by
  intro o ho
  have e : orders3 = [[0, 1, 2], [0, 2, 1], [1, 0, 2], [1, 2, 0], [2, 0, 1], [2, 1, 0]] := by decide +kernel
  rw [e] at ho
  rcases List.mem_cons.mp ho with rfl | ho
  · exact chk_012
  rcases List.mem_cons.mp ho with rfl | ho
  · exact chk_021
  rcases List.mem_cons.mp ho with rfl | ho
  · exact chk_102
  rcases List.mem_cons.mp ho with rfl | ho
  · exact chk_120
  rcases List.mem_cons.mp ho with rfl | ho
  · exact chk_201
  rw [List.mem_singleton.mp ho]
  exact chk_210
theorem chk_all4 : ∀ o ∈ orders4, chkA o 4 = true := by
  intro o ho
  have e : orders4 = [[0, 1, 2, 3], [0, 1, 3, 2], [0, 2, 1, 3], [0, 2, 3, 1], [0, 3, 1, 2], [0, 3, 2, 1], [1, 0, 2, 3], [1, 0, 3, 2], [1, 2, 0, 3], [1, 2, 3, 0], [1, 3, 0, 2], [1, 3, 2, 0], [2, 0, 1, 3], [2, 0, 3, 1], [2, 1, 0, 3], [2, 1, 3, 0], [2, 3, 0, 1], [2, 3, 1, 0], [3, 0, 1, 2], [3, 0, 2, 1], [3, 1, 0, 2], [3, 1, 2, 0], [3, 2, 0, 1], [3, 2, 1, 0]] := by decide +kernel
  rw [e] at ho
  rcases List.mem_cons.mp ho with rfl | ho
  · exact chk_0123
  rcases List.mem_cons.mp ho with rfl | ho
  · exact chk_0132
  rcases List.mem_cons.mp ho with rfl | ho
  · exact chk_0213
  rcases List.mem_cons.mp ho with rfl | ho
  · exact chk_0231
  rcases List.mem_cons.mp ho with rfl | ho
  · exact chk_0312
  rcases List.mem_cons.mp ho with rfl | ho
  · exact chk_0321
  rcases List.mem_cons.mp ho with rfl | ho
  · exact chk_1023
  rcases List.mem_cons.mp ho with rfl | ho
  · exact chk_1032
  rcases List.mem_cons.mp ho with rfl | ho
  · exact chk_1203
  rcases List.mem_cons.mp ho with rfl | ho
  · exact chk_1230
  rcases List.mem_cons.mp ho with rfl | ho
  · exact chk_1302
  rcases List.mem_cons.mp ho with rfl | ho
  · exact chk_1320
  rcases List.mem_cons.mp ho with rfl | ho
  · exact chk_2013
  rcases List.mem_cons.mp ho with rfl | ho
  · exact chk_2031
  rcases List.mem_cons.mp ho with rfl | ho
  · exact chk_2103
  rcases List.mem_cons.mp ho with rfl | ho
  · exact chk_2130
  rcases List.mem_cons.mp ho with rfl | ho
  · exact chk_2301
  rcases List.mem_cons.mp ho with rfl | ho
  · exact chk_2310
  rcases List.mem_cons.mp ho with rfl | ho
  · exact chk_3012
  rcases List.mem_cons.mp ho with rfl | ho
  · exact chk_3021
  rcases List.mem_cons.mp ho with rfl | ho
  · exact chk_3102
  rcases List.mem_cons.mp ho with rfl | ho
  · exact chk_3120
  rcases List.mem_cons.mp ho with rfl | ho
  · exact chk_3201
  rw [List.mem_singleton.mp ho]
  exact chk_3210
end Mine
namespace Mine
theorem linF_cons (j : Nat) (js : List Nat) (g v : Nat → Nat) (k : Nat) : linF (j :: js) g v k = (if k.testBit (g j) then v j else 0) ^^^ linF js g v k := rfl
theorem linF_xor (js : List Nat) (g v : Nat → Nat) (k k' : Nat) : linF js g v (k ^^^ k') = linF js g v k ^^^ linF js g v k' := by
  induction js with
  | nil => exact (Nat.xor_self 0).symm
  | cons j js ih =>
    rw [linF_cons, linF_cons, linF_cons, ih, Nat.testBit_xor]
    generalize linF js g v k = x
    generalize linF js g v k' = y
    generalize v j = z
    cases k.testBit (g j) <;> cases k'.testBit (g j)
    · show 0 ^^^ (x ^^^ y) = (0 ^^^ x) ^^^ (0 ^^^ y); rw [Nat.zero_xor, Nat.zero_xor, Nat.zero_xor]
    · show z ^^^ (x ^^^ y) = (0 ^^^ x) ^^^ (z ^^^ y); rw [Nat.zero_xor, ← Nat.xor_assoc, ← Nat.xor_assoc, Nat.xor_comm z x]
    · show z ^^^ (x ^^^ y) = (z ^^^ x) ^^^ (0 ^^^ y); rw [Nat.zero_xor, Nat.xor_assoc]
    · show 0 ^^^ (x ^^^ y) = (z ^^^ x) ^^^ (z ^^^ y); rw [Nat.zero_xor, Nat.xor_comm z x, Nat.xor_assoc, xx]
theorem linF_zero (js : List Nat) (g v : Nat → Nat) : linF js g v 0 = 0 := by
  have := linF_xor js g v 0 0
  rw [Nat.xor_self, Nat.xor_self] at this
  exact this
def wX (as : List Nat) (r : Nat) : Nat := linF (List.range as.length) id (fun c => as.getD c 0) r
theorem wX_lt (as : List Nat) (h : ∀ a ∈ as, a < 128) (r : Nat) : wX as r < 128 := by
  unfold wX linF
  generalize List.range as.length = js
  induction js with
  | nil => simp
  | cons j js ih =>
    rw [List.foldr_cons]
    refine xor_128 ?_ ih
    split
    · show as.getD j 0 < 128
      rw [List.getD_eq_getElem?_getD]
      cases e : as[j]? with
      | none => simp
      | some a => exact h a (List.mem_of_getElem? e)
    · decide
theorem foldl_xor (l : List Nat) (v : Nat → Nat) : ∀ a, l.foldl (fun w c => w ^^^ v c) a = a ^^^ l.foldr (fun c acc => v c ^^^ acc) 0 := by
  induction l with
  | nil => intro a; simp
  | cons c l ih => intro a; rw [List.foldl_cons, ih, List.foldr_cons, Nat.xor_assoc]
theorem fig_bit (r c a : Nat) : fig r c * a = if r.testBit c then a else 0 := by
  unfold fig
  rw [Nat.testBit_eq_decide_div_mod_eq]
  by_cases h : r / 2 ^ c % 2 = 1
  · rw [h]; simp
  · rw [decide_eq_false h]
    have : r / 2 ^ c % 2 = 0 := by omega
    rw [this]; simp
theorem wordF_eq (as : List Nat) (o : List Nat) (ws : List Int) (hp : o.Perm (List.range as.length)) (r : Nat) : wordF as (mkP o ws) r = wX as r := by
  unfold wordF mkP wX linF
  rw [List.foldl_map]
  have h1 : o.foldl (fun w c => w ^^^ (fig r c * as.getD c 0)) 0 = (List.range as.length).foldl (fun w c => w ^^^ (fig r c * as.getD c 0)) 0 :=
    hp.foldl_eq' (fun x _ y _ z => by rw [Nat.xor_assoc, Nat.xor_assoc, Nat.xor_comm (fig r x * _)]) 0
  show o.foldl (fun w c => w ^^^ (fig r c * as.getD c 0)) 0 = _
  rw [h1, foldl_xor, Nat.zero_xor]
  congr 1
  funext c acc
  rw [fig_bit]; rfl
theorem runB_congr {α : Type} {n : Nat} {a b : Nat → Nat → Bool} (h : ∀ i j, i < n → j < n → a i j = b i j) : ∀ t : KasT α, runB n a t = runB n b t
  | .ret _ => rfl
  | .ask i j k => by
    unfold runB
    by_cases q : i < n ∧ j < n
    · rw [if_pos q, if_pos q, h i j q.1 q.2]; exact runB_congr h _
    · rw [if_neg q, if_neg q]
/-! the listing sees the rows alone -/
section
variable (ps : List (Nat × Int)) (f : Nat → Nat)
theorem placeF_map (c : Card) (L : List Card) : ∀ m, m ≤ L.length → placeF (abF ps (c.1, f c.2)) (L.map fun d => (d.1, f d.2)) m = placeF (abF ps c) L m
  | 0, _ => rfl
  | m + 1, h => by
    have hm : m < L.length := by omega
    have e : abF ps (c.1, f c.2) ((L.map fun d => (d.1, f d.2)).getD m nilCard) = abF ps c (L.getD m nilCard) := by
      rw [List.getD_eq_getElem?_getD, List.getElem?_map, List.getElem?_eq_getElem hm, List.getD_eq_getElem?_getD, List.getElem?_eq_getElem hm]; rfl
    unfold placeF
    rw [e, placeF_map c L m (by omega)]
theorem listF_map (cs : List Card) : listF ps (cs.map fun d => (d.1, f d.2)) = (listF ps cs).map fun d => (d.1, f d.2) := by
  have : ∀ (cs L : List Card), (cs.map fun d => (d.1, f d.2)).foldl (insF ps) (L.map fun d => (d.1, f d.2)) = (cs.foldl (insF ps) L).map fun d => (d.1, f d.2) := by
    intro cs
    induction cs with
    | nil => intro L; rfl
    | cons c cs ih =>
      intro L
      rw [List.map_cons, List.foldl_cons, List.foldl_cons, ← ih]
      congr 1
      unfold insF
      rw [List.length_map, placeF_map ps f c L _ (Nat.le_refl _), List.map_append, List.map_cons, List.map_take, List.map_drop]
  exact this cs []
theorem laidF_map (cs : List Card) : laidF ps (cs.map fun d => (d.1, f d.2)) = (laidF ps cs).map fun d => (d.1, f d.2) := by
  unfold laidF
  split
  · rfl
  · rw [List.map_reverse]
end
/-! the picking by numbers is the picking by places -/
theorem pick_gF {L W : Nat → Nat} {w0 : Nat} {least : Int} (hW : ∀ k, W k = w0 ^^^ L k) (hL : ∀ a b, L (a ^^^ b) = L a ^^^ L b) (ks : List Nat) :
    pickF least (ks.map W) = (gF (fun t => decide ((pc (L t) : Int) < least)) ks).map W := by
  have hx : ∀ a b, W a ^^^ W b = L (a ^^^ b) := fun a b => by rw [hW, hW, hL, Nat.xor_comm w0, Nat.xor_assoc, xx]
  have : ∀ (ks P : List Nat), (ks.map W).foldl (pickStep least) (P.map W) = (ks.foldl (gStep fun t => decide ((pc (L t) : Int) < least)) P).map W := by
    intro ks
    induction ks with
    | nil => intro P; rfl
    | cons k ks ih =>
      intro P
      rw [List.map_cons, List.foldl_cons, List.foldl_cons, ← ih]
      congr 1
      unfold pickStep gStep
      rw [List.filter_map, List.isEmpty_map]
      have e : (P.filter ((fun o => decide ((pc (o ^^^ W k) : Int) < least)) ∘ W)) = P.filter fun q => decide ((pc (L (q ^^^ k)) : Int) < least) :=
        List.filter_congr fun q _ => by show decide ((pc (W q ^^^ W k) : Int) < least) = _; rw [hx]
      rw [e]
      split
      · rw [List.map_append]; rfl
      · rfl
  exact this ks []
theorem doubles_of {L W : Nat → Nat} {w0 : Nat} {T : Nat → Bool} {m : Nat} {Q : List Nat} (hW : ∀ k, W k = w0 ^^^ L k) (hL : ∀ a b, L (a ^^^ b) = L a ^^^ L b) (c : Code T m Q) : Doubles (Q.map W) := by
  intro i hi
  obtain ⟨d, hd, hdd⟩ := c.dbl
  obtain ⟨r, hz⟩ := c.zero
  have hx : ∀ a b, W a ^^^ W b = L (a ^^^ b) := fun a b => by rw [hW, hW, hL, Nat.xor_comm w0, Nat.xor_assoc, xx]
  rw [List.length_map, hd] at hi
  have hid : i < d := (Nat.pow_lt_pow_iff_right (by decide)).mp hi
  have h1 : 2 ^ (i + 1) ≤ 2 ^ d := Nat.pow_le_pow_right (by decide) hid
  have h2 : 2 ^ (i + 1) = 2 * 2 ^ i := by rw [Nat.pow_succ]; omega
  have hp : 0 < 2 ^ i := Nat.pos_of_ne_zero (by simp)
  have gW : ∀ k, k < Q.length → (Q.map W)[k]? = some (W (Q.getD k 0)) := fun k hk => by
    rw [List.getElem?_map, List.getElem?_eq_getElem hk, List.getD_eq_getElem?_getD, List.getElem?_eq_getElem hk]; rfl
  have gD : ∀ k, k < Q.length → (Q.map W).getD k 0 = W (Q.getD k 0) := fun k hk => by rw [List.getD_eq_getElem?_getD, gW k hk]; rfl
  have q0 : Q.getD 0 0 = 0 := by rw [hz]; rfl
  rw [gD 0 (by omega), gD (2 ^ i) (by omega), q0, hx, Nat.zero_xor]
  refine List.ext_getElem? fun j => ?_
  by_cases hj : j < 2 ^ i
  · rw [List.getElem?_map, List.getElem?_take_of_lt hj, gW j (by omega), List.getElem?_take_of_lt hj, List.getElem?_drop, gW _ (by omega), hdd i hid j hj]
    show some (L _ ^^^ W _) = _
    rw [hW, hW, hL, ← Nat.xor_assoc, Nat.xor_comm (L _) w0, Nat.xor_assoc]
  · rw [List.getElem?_eq_none (by rw [List.length_map, List.length_take]; omega), List.getElem?_eq_none (by rw [List.length_take]; omega)]
end Mine
namespace Mine
theorem cards3 (a b c : Nat) : cardsF [a, b, c] = ((List.range 8).map fun r => (rowOf 3 r, r)).map fun d => (d.1, wX [a, b, c] d.2) := by
  have e : ((List.range 8).map fun r => (rowOf 3 r, r)) = [([0, 0, 0], 0), ([1, 0, 0], 1), ([0, 1, 0], 2), ([1, 1, 0], 3), ([0, 0, 1], 4), ([1, 0, 1], 5), ([0, 1, 1], 6), ([1, 1, 1], 7)] := by decide +kernel
  rw [e]
  simp [cardsF, cardStep, wX, linF, List.range_succ, Nat.testBit_eq_decide_div_mod_eq, Nat.xor_assoc]
theorem cards4 (a b c d : Nat) : cardsF [a, b, c, d] = ((List.range 16).map fun r => (rowOf 4 r, r)).map fun x => (x.1, wX [a, b, c, d] x.2) := by
  have e : ((List.range 16).map fun r => (rowOf 4 r, r)) = [([0, 0, 0, 0], 0), ([1, 0, 0, 0], 1), ([0, 1, 0, 0], 2), ([1, 1, 0, 0], 3), ([0, 0, 1, 0], 4), ([1, 0, 1, 0], 5), ([0, 1, 1, 0], 6), ([1, 1, 1, 0], 7),
      ([0, 0, 0, 1], 8), ([1, 0, 0, 1], 9), ([0, 1, 0, 1], 10), ([1, 1, 0, 1], 11), ([0, 0, 1, 1], 12), ([1, 0, 1, 1], 13), ([0, 1, 1, 1], 14), ([1, 1, 1, 1], 15)] := by decide +kernel
  rw [e]
  simp [cardsF, cardStep, wX, linF, List.range_succ, Nat.testBit_eq_decide_div_mod_eq, Nat.xor_assoc]
theorem ord3 (T : Int) : ∃ o ∈ orders3, orderF 3 T = o.map fun c => ((c : Nat) : Int) := by
  have l1 := plF_len T 3 1 (by decide)
  have l2 := plF_len T 3 2 (by decide)
  have i0 := popIdx_lt (total := T) (i := 0) (len := 3) (by decide)
  have i1 := popIdx_lt (total := T) (i := 1) (len := 2) (by decide)
  have i2 := popIdx_lt (total := T) (i := 2) (len := 1) (by decide)
  have key : ∀ i0, i0 < 3 → ∀ i1, i1 < 2 → ∀ i2, i2 < 1 → ∃ o ∈ orders3, [([0, 1, 2] : List Int).getD i0 0, (([0, 1, 2] : List Int).eraseIdx i0).getD i1 0, ((([0, 1, 2] : List Int).eraseIdx i0).eraseIdx i1).getD i2 0] = o.map fun c => ((c : Nat) : Int) := by decide +kernel
  have e0 : plF T 3 0 = [0, 1, 2] := rfl
  have e1 : plF T 3 1 = ([0, 1, 2] : List Int).eraseIdx (popIdx T 0 3) := rfl
  have e2 : plF T 3 2 = (([0, 1, 2] : List Int).eraseIdx (popIdx T 0 3)).eraseIdx (popIdx T 1 2) := by rw [plF, l1, e1]
  have := key _ i0 _ i1 _ i2
  have eo : orderF 3 T = [outF T 3 0, outF T 3 1, outF T 3 2] := rfl
  rw [eo, outF, outF, outF, l1, l2, e2, e1, e0]
  exact this
theorem ord4 (T : Int) : ∃ o ∈ orders4, orderF 4 T = o.map fun c => ((c : Nat) : Int) := by
  have l1 := plF_len T 4 1 (by decide)
  have l2 := plF_len T 4 2 (by decide)
  have l3 := plF_len T 4 3 (by decide)
  have i0 := popIdx_lt (total := T) (i := 0) (len := 4) (by decide)
  have i1 := popIdx_lt (total := T) (i := 1) (len := 3) (by decide)
  have i2 := popIdx_lt (total := T) (i := 2) (len := 2) (by decide)
  have i3 := popIdx_lt (total := T) (i := 3) (len := 1) (by decide)
  have key : ∀ i0, i0 < 4 → ∀ i1, i1 < 3 → ∀ i2, i2 < 2 → ∀ i3, i3 < 1 → ∃ o ∈ orders4, [([0, 1, 2, 3] : List Int).getD i0 0, (([0, 1, 2, 3] : List Int).eraseIdx i0).getD i1 0, ((([0, 1, 2, 3] : List Int).eraseIdx i0).eraseIdx i1).getD i2 0, (((([0, 1, 2, 3] : List Int).eraseIdx i0).eraseIdx i1).eraseIdx i2).getD i3 0] = o.map fun c => ((c : Nat) : Int) := by decide +kernel
  have e0 : plF T 4 0 = [0, 1, 2, 3] := rfl
  have e1 : plF T 4 1 = ([0, 1, 2, 3] : List Int).eraseIdx (popIdx T 0 4) := rfl
  have e2 : plF T 4 2 = (([0, 1, 2, 3] : List Int).eraseIdx (popIdx T 0 4)).eraseIdx (popIdx T 1 3) := by rw [plF, l1, e1]
  have e3 : plF T 4 3 = ((([0, 1, 2, 3] : List Int).eraseIdx (popIdx T 0 4)).eraseIdx (popIdx T 1 3)).eraseIdx (popIdx T 2 2) := by rw [plF, l2, e2]
  have := key _ i0 _ i1 _ i2 _ i3
  have eo : orderF 4 T = [outF T 4 0, outF T 4 1, outF T 4 2, outF T 4 3] := rfl
  rw [eo, outF, outF, outF, outF, l1, l2, l3, e3, e2, e1, e0]
  exact this
theorem ways_mem (T : Int) : ∀ n : Nat, ∀ s : Nat, ((List.range' s n).map (wayF T)) ∈ waysL n
  | 0, _ => List.mem_singleton.mpr rfl
  | n + 1, s => by
    rw [List.range'_succ, List.map_cons, waysL]
    refine List.mem_flatMap.mpr ⟨_, ways_mem T n (s + 1), ?_⟩
    rcases way_pm T s with h | h <;> rw [h] <;> simp
theorem plain_core {ns : List Int} {as o : List Nat} (eas : as = numsF ns) (a128 : ∀ a ∈ as, a < 128) (hn : as.length ≤ 4) (ho : orderF as.length ns.sum = o.map fun c => ((c : Nat) : Int)) (hperm : o.Perm (List.range as.length))
    (hcards : cardsF as = ((List.range (2 ^ as.length)).map fun r => (rowOf as.length r, r)).map fun d => (d.1, wX as d.2))
    (h3 : 3 ≤ as.length) (hchk : ∀ ws ∈ waysL as.length, chk1 o ws = true ∧ chk2 o ws = true) : ∃ ps p, PlainOk ns as ps p := by
  have ol : o.length = as.length := by rw [hperm.length_eq, List.length_range]
  have hoN : ordN as.length ns.sum = o := by
    rw [ordN, ho, List.map_map]
    exact (List.map_congr_left fun c _ => by show ((c : Nat) : Int).toNat = c; omega).trans (List.map_id _)
  have olt : ∀ c ∈ o, c < as.length := fun c hc => List.mem_range.mp (hperm.mem_iff.mp hc)
  generalize hws : (List.range as.length).map (wayF ns.sum) = ws
  have wsm : ws ∈ waysL as.length := by rw [← hws, List.range_eq_range']; exact ways_mem _ _ _
  obtain ⟨c1, c2⟩ := hchk ws wsm
  have eps : mkP o ws = picksF as.length ns.sum := by
    rw [picksF, hoN, mkP]
    refine List.map_congr_left fun c hc => ?_
    have := olt c hc
    rw [← hws, List.getD_eq_getElem?_getD, List.getElem?_map, List.getElem?_range this]; rfl
  have hN : 2 ^ as.length ≤ 16 := p16 hn
  unfold chk1 at c1
  unfold chk2 at c2
  rw [ol] at c1 c2
  have c2 := eq_of_beq c2
  obtain ⟨c0, c1⟩ := Bool.and_eq_true_iff.mp c1
  have c0 : (ksF o ws).Perm (List.range (2 ^ as.length)) := List.isPerm_iff.mp c0
  have c1 := rising_pw c1
  have c4 : ∀ k ∈ ksF o ws, k < 2 ^ as.length := fun k hk => List.mem_range.mp (c0.mem_iff.mp hk)
  generalize hps : mkP o ws = ps at *
  have hwf : ∀ r, wordF as ps r = wX as r := fun r => by rw [← hps]; exact wordF_eq as o ws hperm r
  have rl : (rankedF as ps).length = 2 ^ as.length := by simp [rankedF]
  have rg : ∀ i, i < 2 ^ as.length → (rankedF as ps).getD i (0, 0) = (rankF ps i, wordF as ps i) := fun i hi => by
    rw [rankedF, List.getD_eq_getElem?_getD, List.getElem?_map, List.getElem?_range hi]; rfl
  have ekw : (ksF o ws).map (fun i => ((rankedF as ps).getD i (0, 0)).2) = (ksF o ws).map (wX as) := List.map_congr_left fun i hi => by rw [rg i (c4 i hi)]; exact hwf i
  have eW : (ksF o ws).map (wX as) = (List.range (2 ^ as.length)).map fun k => wX as (sMask o ws) ^^^ wX as (piF o k) := by
    rw [ksF, ol, List.map_map]
    exact List.map_congr_left fun k _ => linF_xor _ _ _ _ _
  have hL : ∀ a b, wX as (piF o (a ^^^ b)) = wX as (piF o a) ^^^ wX as (piF o b) := fun a b => by
    have : piF o (a ^^^ b) = piF o a ^^^ piF o b := linF_xor _ _ _ _ _
    rw [this]; exact linF_xor _ _ _ _ _
  refine ⟨ps, (ksF o ws).toArray, eas, eps, by rw [hoN]; exact ho, fun c hc => olt c (by rw [hoN] at hc; exact hc), ?_, ?_, ?_, ?_, ?_, ?_, ?_, ?_⟩
  · rw [hcards, List.map_map, List.map_map, rankedF, List.map_map]
    exact List.map_congr_left fun r _ => (hwf r).symm
  · intro w hw
    obtain ⟨r, _, rfl⟩ := List.mem_map.mp hw
    show wordF as ps r < 128
    rw [hwf]; exact wX_lt as a128 r
  · intro i j hi hj e
    rw [rl] at hi hj
    rw [rg i hi, rg j hj] at e
    have e : rankF ps i = rankF ps j := e
    exact pw_apart c1 (c0.mem_iff.mpr (List.mem_range.mpr hi)) (c0.mem_iff.mpr (List.mem_range.mpr hj)) e
  · rw [rl, ← sort_is (key := rankF ps) (fun i j hi hj e => pw_apart c1 (c0.mem_iff.mpr (List.mem_range.mpr hi)) (c0.mem_iff.mpr (List.mem_range.mpr hj)) e) (Nat.le_trans (by decide) (Nat.pow_le_pow_right (n := 2) (by decide) h3)) c0 c1]
    exact runB_congr (fun i j hi hj => by unfold askR; rw [rg i hi, rg j hj]) _
  · intro i hi
    rw [rl]; exact c4 i hi
  · show (ksF o ws).length ≤ 16
    rw [ksF, ol, List.length_map, List.length_range]; exact hN
  · show _ = pickF _ ((ksF o ws).map _)
    rw [ekw, hcards, laidF_map, listF_map, List.map_map]
    congr 1
    rw [← c2, List.map_map]; rfl
  · show Doubles (pickF _ ((ksF o ws).map _))
    rw [ekw, eW, pick_gF (L := fun k => wX as (piF o k)) (w0 := wX as (sMask o ws)) (W := fun k => wX as (sMask o ws) ^^^ wX as (piF o k)) (fun k => rfl) hL]
    exact doubles_of (L := fun k => wX as (piF o k)) (w0 := wX as (sMask o ws)) (fun k => rfl) hL (gF_code _ hn)
end Mine
namespace Mine
theorem perm3 : ∀ o ∈ orders3, o.Perm (List.range 3) := by decide +kernel
theorem perm4 : ∀ o ∈ orders4, o.Perm (List.range 4) := by decide +kernel
theorem chkA_of {o : List Nat} {n : Nat} (h : chkA o n = true) : ∀ ws ∈ waysL n, chk1 o ws = true ∧ chk2 o ws = true := fun ws hw => by
  have := List.all_eq_true.mp h ws hw
  simp only [Bool.and_eq_true] at this
  exact this
theorem plain (ns : List Int) : ∃ as ps p, PlainOk ns as ps p := by
  have a128 : ∀ a ∈ numsF ns, a < 128 := fun a ha => by
    obtain ⟨x, hx, rfl⟩ := List.mem_map.mp ha
    have h1 := Int.fmod_nonneg_of_pos x (b := 128) (by decide)
    have h2 := Int.fmod_lt_of_pos x (b := 128) (by decide)
    omega
  obtain ⟨p1, p2⟩ := pre_len ns
  have hl : (numsF ns).length = (preF ns).length := by rw [numsF, List.length_map]
  refine ⟨numsF ns, ?_⟩
  generalize hg : numsF ns = as at *
  match as, hl with
  | [a, b, c], _ =>
    obtain ⟨o, hm, ho⟩ := ord3 ns.sum
    exact plain_core (as := [a, b, c]) hg.symm a128 (by decide : 3 ≤ 4) ho (perm3 o hm) (cards3 a b c) (by decide : 3 ≤ 3) (chkA_of (chk_all3 o hm))
  | [a, b, c, d], _ =>
    obtain ⟨o, hm, ho⟩ := ord4 ns.sum
    exact plain_core (as := [a, b, c, d]) hg.symm a128 (by decide : 4 ≤ 4) ho (perm4 o hm) (cards4 a b c d) (by decide : 3 ≤ 4) (chkA_of (chk_all4 o hm))
  | [], h => simp at h; omega
  | [_], h => simp at h; omega
  | [_, _], h => simp at h; omega
  | _ :: _ :: _ :: _ :: _ :: _, h => simp at h; omega
end Mine
theorem PySem.Challenge.cw_mr0071_01_holds : PySem.Challenge.rw_mr0071_01.Holds :=
  Mine.hd (by
  k_go0
  rename_i w s0 s1 mg mb G Y fa o pm doc ho hg KX X V GL T B TE TW w12 w11 M w10 w9 hcd ns hs hlay0 hL1 hr1 hl2 w7 w6 la vs w3 hL ra wl r0 hI hr hc1 hc0 K0 hD h1 tk1 F o2 o1 o0 l1 l0 rr N0 X0
  obtain ⟨as, ps, p, pk⟩ := Mine.plain ns
  have hW : Mine.Wd (Mine.KH w) s1.heap := ⟨KX, ⟨mg, T.g⟩, ⟨mb, T.b, T.builtins⟩, T.nolimit, T.nodigits⟩
  refine wpAny_mono (Q := Mine.Post ⟨PySem.Challenge.rw_mr0071_01.row.prog, w, s1.heap⟩ s1 (fun h v => Mine.Rp [] h v (.bool true))) (E := fun _ _ => False) ?body (fun f s' hq => ?q) (fun e s' he => he.elim)
  case q =>
    obtain ⟨v, h', tk', rfl, rfl, kp, r⟩ := hq
    rw [r.ofBool]
    refine ⟨.inl ⟨.bool true, .bool true, [], rfl, fun _ => rfl, .bool true, ?post, fun _ => ⟨.nil, fun _ q => nomatch q⟩⟩, kp.base, rfl, hg⟩
    first | kernel_rfl | decide | (show (WShape.has _ _ _ && WTm.holds _ _ _) = true; simp [WShape.has, WTm.holds, WTm.value]; done)
  case body =>
    have CL := Cl.of_news (own := []) N0 X0 ?ap ?ab
    case ap =>
      refine List.Pairwise.cons (fun y hy => ?_) (List.Pairwise.cons (fun y hy => ?_) (List.Pairwise.cons (fun y hy => nomatch hy) .nil))
      · rcases List.mem_cons.mp hy with rfl | hy
        · show s1.heap.objs.size + 1 + 1 + 1 ≠ s1.heap.objs.size + 1 + 1; omega
        · rw [List.mem_singleton.mp hy]; show s1.heap.objs.size + 1 + 1 + 1 ≠ s1.heap.objs.size + 1; omega
      · rw [List.mem_singleton.mp hy]; show s1.heap.objs.size + 1 + 1 ≠ s1.heap.objs.size + 1; omega
    case ab =>
      intro n c hm
      rcases List.mem_cons.mp hm with e | hm
      · cases e; show s1.heap.objs.size < s1.heap.objs.size + 1 + 1 + 1; omega
      · rcases List.mem_cons.mp hm with e | hm
        · cases e; show s1.heap.objs.size < s1.heap.objs.size + 1 + 1; omega
        · cases List.mem_singleton.mp hm; show s1.heap.objs.size < s1.heap.objs.size + 1; omega
    refine Mine.law_body (k := 0) (G := ⟨PySem.Challenge.rw_mr0071_01.row.prog, w, s1.heap⟩) (s₀ := s1) (A := callerA) rfl rfl rfl hW ⟨rfl, by decide, by decide, Mine.Kp.refl _, [], rfl, fun _ q => nomatch q⟩ (v := .ref la) (ns := ns) ⟨rfl, CL.apart, Mine.Kp.of F.keep, ?can, ?new, ⟨_, F.ns⟩, ?newL, rfl⟩ ?look (Mine.Rp.list hL (fun q => nomatch q) (Mine.IntsAre.rpL hI)) (by omega) pk
    case can =>
      intro x a e
      unfold Mine.slotOf at e
      split at e
      · rename_i q; exact .inl ⟨q, _, F.ns⟩
      · rename_i q; exact .inr ⟨q, a, _, e, CL.cell x a e⟩
      · cases e
    case new =>
      intro x a e
      unfold Mine.slotOf at e
      split at e
      · cases e; exact Mine.none_ge (Nat.le_refl _)
      · exact Mine.none_ge (Nat.le_of_lt (CL.above x a (mem_of_lookup e)))
      · cases e
    case newL => exact Mine.none_ge (Nat.le_refl _)
    case look => exact .inl ⟨rfl, _, F.ns, rfl⟩)
