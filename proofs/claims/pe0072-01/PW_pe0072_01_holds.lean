import PyProof.Rows.All
import Wide.All
import OpenK.AllK
import Wide.FinOn
import KE.KIntText
import KE.KUnpack
import KE.KSortTup
import KE.KLam
import KE.KIsAll
import PySem.Challenge.RW_pe0072_01
set_option Elab.async false

section
open PySem PySem.W PyProof.Rows PySem.SeqAt
open PySem.MeetsSeq PySem.MeetsSeq2 PySem.MeetsSeq3
open PySem.AutoSeq1 (wpAny_loadPart')
set_option Elab.async false
set_option maxRecDepth 100000
namespace Mine

/-- What a list of the law holds: an int, or a text. -/
abbrev TV := Sum Int Str
def tvOf : Value → Option TV
  | .int n _ => some (.inl n)
  | .str x _ => some (.inr x)
  | _ => none
def Holds2 (vs : List Value) (ts : List TV) : Prop := vs.map tvOf = ts.map some

theorem tv_eqAt {A : Around} {s : Shared} {v u : Value} {a b : TV} (hv : tvOf v = some a) (hu : tvOf u = some b) : EqAt A s v u (decide (a = b)) := by
  cases v <;> cases u <;> simp only [tvOf, Option.some.injEq, reduceCtorEq] at hv hu <;> subst hv <;> subst hu
  · rename_i m t n k
    have := EqAt.int_int (A := A) (s := s) m t n k
    have e : decide ((Sum.inl m : TV) = Sum.inl n) = (m == n) := by
      by_cases h : m = n <;> simp [h]
    rw [e]; exact this
  · rename_i m t n k
    exact EqAt.int_str (A := A) (s := s) m t n k
  · rename_i m t n k
    exact EqAt.str_int (A := A) (s := s) m t n k
  · rename_i m t n k
    have := EqAt.str_str (A := A) (s := s) m t n k
    have e : decide ((Sum.inr m : TV) = Sum.inr n) = (m == n) := by
      by_cases h : m = n <;> simp [h]
    rw [e]; exact this

/-- the two orders: less, less or like -/
def ordC (le : Bool) (m n : Int) : Bool := if le then decide (m ≤ n) else decide (m < n)
def ordN (le : Bool) (m n : Nat) : Bool := if le then decide (m ≤ n) else decide (m < n)
def difC (le : Bool) : TV → TV → Option Bool
  | .inl m, .inl n => some (ordC le m n)
  | _, _ => none
def lexC (le : Bool) : List TV → List TV → Option Bool
  | a :: as, b :: bs => if a = b then lexC le as bs else difC le a b
  | as, bs => some (ordN le as.length bs.length)
def opOf (le : Bool) : CmpOp := if le then .LtE else .Lt
def codeOf (le : Bool) : Int := if le then 1 else 0

theorem tv_rc {prog : Program} {w : World} {A : Around} {E : Value → Shared → Prop} {s : Shared} {le : Bool} {v u : Value} {m n : Int} {Q : Value → Shared → Prop}
    (hv : tvOf v = some (.inl m)) (hu : tvOf u = some (.inl n)) (h : Q (.bool (ordC le m n)) s) : wpAny (model prog w) A (richCompare (opOf le) v u) Q E s := by
  cases v <;> simp only [tvOf, Option.some.injEq, reduceCtorEq, Sum.inl.injEq] at hv
  cases u <;> simp only [tvOf, Option.some.injEq, reduceCtorEq, Sum.inl.injEq] at hu
  subst hv hu
  cases le
  · exact wpAny_lt_int (E := E) (by simpa [ordC] using h)
  · exact P.le_int (E := E) (by simpa [ordC] using h)

set_option maxHeartbeats 2000000 in
theorem ord_loop (l b : Addr) (items items2 : Array Value) (n n2 : Nat) (dd dd2 : Option Addr) (sl sl2 : Array (Option Value)) (le r : Bool) :
    ∀ (as bs : List TV) (vs us : List Value) (i : Nat), Holds2 vs as → Holds2 us bs → items.toList.drop i = vs → items2.toList.drop i = us → i ≤ items.size → i ≤ items2.size → lexC le as bs = some r →
      Meets (Builtin.«list.__eq__.loop» ⟨[.ref l, .ref b, rawInt i, rawInt (codeOf le)], []⟩)
      (fun _ R s => s.heap.get? l = some { cls := .type "list", dict := dd, data := .seq items n, slots := sl } ∧ s.heap.get? b = some { cls := .type "list", dict := dd2, data := .seq items2 n2, slots := sl2 } ∧
        R (.ok (.ret (.bool r))) s) := by
  intro as
  induction as with
  | nil =>
    intro bs vs us i ha hb h1 h2 i1 i2 hr prog w A R s h
    obtain ⟨hp, g, d, tk, os⟩ := s; obtain ⟨hl, hb', h⟩ := h
    have hvs : vs = [] := by simpa [Holds2] using ha
    subst hvs
    have hi : items.size ≤ i := by simpa using h1
    have e1 : items[((i : Nat) : Int).toNat]? = none := by simp; omega
    have hlen : us.length = bs.length := by simpa [Holds2] using congrArg List.length hb
    have hu : items2.size - i = us.length := by rw [← h2]; simp
    have hr' : r = ordN le items.size items2.size := by
      have : lexC le [] bs = some (ordN le 0 bs.length) := by cases bs <;> rfl
      rw [this] at hr
      injection hr with hr
      rw [← hr]
      cases le <;> simp only [ordN, if_true, Bool.false_eq_true, if_false] <;> (apply decide_eq_decide.mpr; omega)
    cases le
    · wp_walk using wpAny_loadPart' hl, wpAny_loadPart' hb'
      rw [e1]
      wp_walk using wpAny_loadPart' hl, wpAny_loadPart' hb'
      rw [hr'] at h
      exact h
    · wp_walk using wpAny_loadPart' hl, wpAny_loadPart' hb'
      rw [e1]
      wp_walk using wpAny_loadPart' hl, wpAny_loadPart' hb'
      rw [hr'] at h
      exact h
  | cons a as ih =>
    intro bs vs us i ha hb h1 h2 i1 i2 hr prog w A R s h
    obtain ⟨hp, g, d, tk, os⟩ := s; obtain ⟨hl, hb', h⟩ := h
    cases vs with
    | nil => simp [Holds2] at ha
    | cons v vs =>
    have ha1 : tvOf v = some a := by simp [Holds2] at ha; exact ha.1
    have ha2 : Holds2 vs as := by simp [Holds2] at ha; exact ha.2
    have hlt : i < items.size := by
      have := congrArg List.length h1
      simp at this; omega
    have e1 : items[((i : Nat) : Int).toNat]? = some v := by
      have : (items.toList.drop i)[0]? = some v := by rw [h1]; rfl
      simpa using this
    have t1 : items.toList.drop (i + 1) = vs := by
      have : (items.toList.drop i).drop 1 = vs := by rw [h1]; rfl
      simpa using this
    cases us with
    | nil =>
      have hbs : bs = [] := by simpa [Holds2] using hb
      subst hbs
      have hi : items2.size ≤ i := by simpa using h2
      have e2 : items2[((i : Nat) : Int).toNat]? = none := by simp; omega
      have hr' : r = ordN le items.size items2.size := by
        have : lexC le (a :: as) [] = some (ordN le (a :: as).length 0) := rfl
        rw [this] at hr
        injection hr with hr
        rw [← hr]
        cases le <;> simp only [ordN, if_true, Bool.false_eq_true, if_false, List.length_cons] <;> (apply decide_eq_decide.mpr; omega)
      cases le
      · wp_walk using wpAny_loadPart' hl, wpAny_loadPart' hb'
        rw [e1, e2]
        wp_walk using wpAny_loadPart' hl, wpAny_loadPart' hb'
        rw [hr'] at h
        exact h
      · wp_walk using wpAny_loadPart' hl, wpAny_loadPart' hb'
        rw [e1, e2]
        wp_walk using wpAny_loadPart' hl, wpAny_loadPart' hb'
        rw [hr'] at h
        exact h
    | cons u us =>
    cases bs with
    | nil => simp [Holds2] at hb
    | cons b0 bs =>
    have hb1 : tvOf u = some b0 := by simp [Holds2] at hb; exact hb.1
    have hb2 : Holds2 us bs := by simp [Holds2] at hb; exact hb.2
    have hlt2 : i < items2.size := by
      have := congrArg List.length h2
      simp at this; omega
    have e2 : items2[((i : Nat) : Int).toNat]? = some u := by
      have : (items2.toList.drop i)[0]? = some u := by rw [h2]; rfl
      simpa using this
    have t2 : items2.toList.drop (i + 1) = us := by
      have : (items2.toList.drop i).drop 1 = us := by rw [h2]; rfl
      simpa using this
    have hc : ((i : Int) + 1) = ((i + 1 : Nat) : Int) := by push_cast; rfl
    have hr1 : (if a = b0 then lexC le as bs else difC le a b0) = some r := hr
    have hE := tv_eqAt (A := A.in1) (s := ⟨hp, g, d, tk, os⟩) ha1 hb1
    by_cases hab : a = b0
    · rw [if_pos hab] at hr1
      rw [decide_eq_true hab] at hE
      cases le
      all_goals
        wp_walk using wpAny_loadPart' hl, wpAny_loadPart' hb'
        rw [e1, e2]
        refine wpAny_bind (hE prog w _ _ ?_)
        wp_walk
        rw [hc]
        exact ⟨plainId_quiet plain_eq_loop _, codeAny_builtin entry_eq_loop (by
          rw [Around.under_plainId plain_eq_loop _]
          exact ih bs vs us (i + 1) ha2 hb2 t1 t2 hlt hlt2 hr1 prog w A R _ ⟨hl, hb', h⟩)⟩
    · rw [if_neg hab] at hr1
      rw [decide_eq_false hab] at hE
      cases a with
      | inr x => simp [difC] at hr1
      | inl m =>
        cases b0 with
        | inr x => simp [difC] at hr1
        | inl k =>
          have hrr : r = ordC le m k := by simpa [difC] using hr1.symm
          have hrc : ∀ {E : Value → Shared → Prop} {Q : Value → Shared → Prop}, Q (.bool (ordC le m k)) ⟨hp, g, d, tk, os⟩ → wpAny (model prog w) A.in1 (richCompare (opOf le) v u) Q E ⟨hp, g, d, tk, os⟩ := fun hq => tv_rc ha1 hb1 hq
          rw [hrr] at h
          cases le
          all_goals
            wp_walk using wpAny_loadPart' hl, wpAny_loadPart' hb'
            rw [e1, e2]
            refine wpAny_bind (hE prog w _ _ ?_)
            wp_walk using wpAny_loadPart' hl, wpAny_loadPart' hb'
            rw [e1, e2]
            refine wpAny_bind (hrc ?_)
            wp_walk
            exact h

theorem list_ordM (l b : Addr) (items items2 : Array Value) (n n2 : Nat) (dd dd2 : Option Addr) (sl sl2 : Array (Option Value)) (r : Bool) {as bs : List TV} (ha : Holds2 items.toList as) (hb : Holds2 items2.toList bs) (hr : lexC false as bs = some r) :
    Meets (Builtin.«list.__lt__» ⟨[.ref l, .ref b], []⟩)
      (fun _ R s => s.heap.get? l = some { cls := .type "list", dict := dd, data := .seq items n, slots := sl } ∧ s.heap.get? b = some { cls := .type "list", dict := dd2, data := .seq items2 n2, slots := sl2 } ∧
        R (.ok (.ret (.bool r))) s) := by
  intro prog w A R s h
  obtain ⟨hp, g, d, tk, os⟩ := s; obtain ⟨hl, hb', h⟩ := h
  have f3 := AutoSeq1.sub_list_list
  wp_walk using wpAny_loadPart' hl, wpAny_loadPart' hb'
  exact ⟨plainId_quiet plain_eq_loop _, codeAny_builtin entry_eq_loop (by
    rw [Around.under_plainId plain_eq_loop _]
    exact ord_loop l b items items2 n n2 dd dd2 sl sl2 false r as bs _ _ 0 ha hb rfl rfl (Nat.zero_le _) (Nat.zero_le _) hr prog w A R _ ⟨hl, hb', h⟩)⟩
theorem list_ordM' (l b : Addr) (items items2 : Array Value) (n n2 : Nat) (dd dd2 : Option Addr) (sl sl2 : Array (Option Value)) (r : Bool) {as bs : List TV} (ha : Holds2 items.toList as) (hb : Holds2 items2.toList bs) (hr : lexC true as bs = some r) :
    Meets (Builtin.«list.__le__» ⟨[.ref l, .ref b], []⟩)
      (fun _ R s => s.heap.get? l = some { cls := .type "list", dict := dd, data := .seq items n, slots := sl } ∧ s.heap.get? b = some { cls := .type "list", dict := dd2, data := .seq items2 n2, slots := sl2 } ∧
        R (.ok (.ret (.bool r))) s) := by
  intro prog w A R s h
  obtain ⟨hp, g, d, tk, os⟩ := s; obtain ⟨hl, hb', h⟩ := h
  have f3 := AutoSeq1.sub_list_list
  wp_walk using wpAny_loadPart' hl, wpAny_loadPart' hb'
  exact ⟨plainId_quiet plain_eq_loop _, codeAny_builtin entry_eq_loop (by
    rw [Around.under_plainId plain_eq_loop _]
    exact ord_loop l b items items2 n n2 dd dd2 sl sl2 true r as bs _ _ 0 ha hb rfl rfl (Nat.zero_le _) (Nat.zero_le _) hr prog w A R _ ⟨hl, hb', h⟩)⟩

/-- a list compared with a list by < or <=, where the first difference is one of ints -/
theorem list_ord {prog : Program} {w : World} {A : Around} {E : Value → Shared → Prop} {s : Shared} {le r : Bool} {l b : Addr} {vs us : Array Value} {as bs : List TV} {Q : Value → Shared → Prop}
    (hl : s.heap.IsList l vs) (hb : s.heap.IsList b us) (ha : Holds2 vs.toList as) (hbs : Holds2 us.toList bs) (hr : lexC le as bs = some r) (hu : A.units < cLine) (h : Q (.bool r) s) :
    wpAny (model prog w) A (compareOp (opOf le) (.ref l) (.ref b)) Q E s := by
  obtain ⟨⟨c1, d1, dt1, sl1⟩, hol, hcl, n, hdl⟩ := id hl
  obtain ⟨⟨c2, d2, dt2, sl2⟩, hob, hcb, n2, hdb⟩ := id hb
  dsimp only at hcl hdl hcb hdb
  subst hcl hdl hcb hdb
  cases le
  · show wpAny (model prog w) A (richCompare .Lt (.ref l) (.ref b)) Q E s
    exact richCompare_meets_room (op := .Lt) hl.typeIs hb.typeIs F.slot_list_lt F.entry_list_lt (F.args_list_lt_2 _ _) (list_ordM l b vs us n n2 d1 d2 sl1 sl2 r ha hbs hr) ⟨hol, hob, (by simp), h⟩ hu
  · show wpAny (model prog w) A (richCompare .LtE (.ref l) (.ref b)) Q E s
    exact richCompare_meets_room (op := .LtE) hl.typeIs hb.typeIs F.slot_list_le F.entry_list_le (F.args_list_le_2 _ _) (list_ordM' l b vs us n n2 d1 d2 sl1 sl2 r ha hbs hr) ⟨hol, hob, (by simp), h⟩ hu
end Mine
end

section
open PySem PySem.W PyProof.Rows PySem.SeqAt
set_option Elab.async false
set_option maxRecDepth 100000
namespace Mine

/-- a table of names, as a frame has one -/
def Tabled (o : Obj) : Prop := ∃ es n, o.data = .dict es n
/-- What is kept at the places that P names: every object as it was; a table (a frame's) behind n₁ up to its slots. -/
def KpOn (n₁ : Nat) (P : Addr → Prop) (h h' : Heap) : Prop :=
  ∀ b o, P b → h.get? b = some o → (∃ sl, h'.get? b = some { o with slots := sl }) ∧ ((¬ Tabled o ∨ b < n₁) → h'.get? b = some o)
abbrev Kp (n₁ : Nat) (h h' : Heap) : Prop := KpOn n₁ (fun _ => True) h h'

section
variable {n₁ : Nat} {P P' : Addr → Prop} {h h' h'' : Heap}
theorem KpOn.of_keep (k : ∀ b o, P b → h.get? b = some o → h'.get? b = some o) : KpOn n₁ P h h' :=
  fun b o p e => ⟨⟨o.slots, k b o p e⟩, fun _ => k b o p e⟩
theorem Kp.of_keep (k : ∀ b o, h.get? b = some o → h'.get? b = some o) : Kp n₁ h h' := KpOn.of_keep fun b o _ e => k b o e
theorem KpOn.refl : KpOn n₁ P h h := KpOn.of_keep fun _ _ _ e => e
theorem KpOn.trans (x : KpOn n₁ P h h') (y : KpOn n₁ P h' h'') : KpOn n₁ P h h'' := fun b o p e => by
  obtain ⟨⟨sl, e1⟩, k1⟩ := x b o p e
  obtain ⟨⟨sl2, e2⟩, k2⟩ := y b _ p e1
  refine ⟨⟨sl2, e2⟩, fun hc => ?_⟩
  have e1' := k1 hc
  exact (y b o p e1').2 hc
theorem KpOn.mono (x : KpOn n₁ P h h') (hp : ∀ b, P' b → P b) : KpOn n₁ P' h h' := fun b o p e => x b o (hp b p) e
theorem KpOn.get (x : KpOn n₁ P h h') {b : Addr} {o : Obj} (p : P b) (e : h.get? b = some o) (hc : ¬ Tabled o) : h'.get? b = some o := (x b o p e).2 (.inl hc)
theorem KpOn.low (x : KpOn n₁ P h h') {b : Addr} {o : Obj} (p : P b) (e : h.get? b = some o) (hb : b < n₁) : h'.get? b = some o := (x b o p e).2 (.inr hb)
theorem KpOn.of_same {a : Addr} (hs : Heap.SameBut a h h') (hp : ∀ b, P b → b ≠ a) : KpOn n₁ P h h' := KpOn.of_keep fun b o p e => hs.extBut b o (hp b p) e

theorem KpOn.isList (x : KpOn n₁ P h h') {a : Addr} {items : Array Value} (p : P a) (hl : h.IsList a items) : h'.IsList a items := by
  obtain ⟨o, ho, hc, n, hd⟩ := hl
  exact ⟨o, x.get p ho (by rintro ⟨_, _, e⟩; rw [hd] at e; cases e), hc, n, hd⟩
theorem KpOn.isTuple (x : KpOn n₁ P h h') {a : Addr} {items : Array Value} (p : P a) (hl : h.IsTuple a items) : h'.IsTuple a items := by
  obtain ⟨o, ho, hc, n, hd⟩ := hl
  exact ⟨o, x.get p ho (by rintro ⟨_, _, e⟩; rw [hd] at e; cases e), hc, n, hd⟩
theorem KpOn.ns (x : KpOn n₁ P h h') {a : Addr} {m : Str → Option Value} (p : P a) (hn : h.Ns a m) : h'.Ns a m := by
  obtain ⟨o, es, ep, ho, hd, r⟩ := hn
  obtain ⟨⟨sl, e⟩, _⟩ := x a o p ho
  exact ⟨_, es, ep, e, hd, r⟩
def IsCl (h : Heap) (c : Addr) (v : Option Value) : Prop := ∃ o, h.get? c = some o ∧ True ∧ o.data = .cell v
theorem IsCl.of {c : Addr} {v : Option Value} (x : h.IsCell c v) : IsCl h c v := let ⟨o, a, d⟩ := x; ⟨o, a, trivial, d⟩
theorem IsCl.isCell {c : Addr} {v : Option Value} (x : IsCl h c v) : h.IsCell c v := let ⟨o, a, _, d⟩ := x; ⟨o, a, d⟩
theorem KpOn.isCl (x : KpOn n₁ P h h') {c : Addr} {v : Option Value} (p : P c) (hc : IsCl h c v) : IsCl h' c v := by
  obtain ⟨o, a, b, d⟩ := hc
  exact ⟨o, x.get p a (by rintro ⟨_, _, e⟩; rw [d] at e; cases e), b, d⟩
theorem KpOn.old {h₀ : Heap} (x : KpOn n₁ P h h') (hp : ∀ b, b < n₁ → P b) (hn : h₀.objs.size ≤ n₁) (K : OldK h₀ h) : OldK h₀ h' := by
  have lt : ∀ b o, h₀.get? b = some o → b < n₁ := fun b o e => Nat.lt_of_lt_of_le (Heap.lt_size e) hn
  have kp : ∀ b o, b < n₁ → h.get? b = some o → h'.get? b = some o := fun b o hb e => x.low (hp b hb) e hb
  refine ⟨fun b o e => ?_, fun b o e => ?_⟩
  · rcases K.old b o e with y | ⟨t, hc, vs, more, hv, y⟩ | ⟨rfl, hc, ⟨o', es, n, ho', r⟩, z⟩
    · exact .inl (kp _ _ (lt b o e) y)
    · exact .inr (.inl ⟨t, hc, vs, more, hv, kp _ _ (lt b o e) y⟩)
    · have l := lt _ o e
      exact .inr (.inr ⟨rfl, hc, ⟨o', es, n, kp _ _ l ho', r⟩, fun key => by rw [OldK.staticOf_congr ((kp _ _ l ho').trans ho'.symm) key]; exact z key⟩)
  · obtain ⟨o', ho'⟩ := K.there b o e
    exact ⟨o', kp _ _ (lt b o e) ho'⟩
end

/-- data, read at places that P names -/
theorem KpOn.reads {n₁ : Nat} {P : Addr → Prop} {h h' : Heap} (x : KpOn n₁ P h h') : ∀ {v : Value} {d : PyData} {as : List Addr}, Reads h v d as → (∀ a, P a) → Reads h' v d as := by
  intro v d as r hp
  exact Reads.rec (motive_1 := fun v d as _ => Reads h' v d as) (motive_2 := fun vs ds as _ => ReadsAll h' vs ds as)
    .none (fun b => .bool b) (fun i t => .int i t) (fun y t => .str y t)
    (fun {a o vs n xs as} e c d _ ih => .list (x.get (hp a) e (by rintro ⟨_, _, q⟩; rw [d] at q; cases q)) c d ih)
    (fun {a o vs n xs as} e c d _ ih => .tuple (x.get (hp a) e (by rintro ⟨_, _, q⟩; rw [d] at q; cases q)) c d ih)
    (fun {a o es n kvs as bs} e c d _ _ ih1 ih2 => let ⟨⟨_, e'⟩, _⟩ := x a o (hp a) e; .dict e' c d ih1 ih2)
    .nil (fun _ _ ih1 ih2 => .cons ih1 ih2) r

/-- How a state goes on. -/
structure Go (n₁ : Nat) (s s' : Shared) : Prop where
  kp : Kp n₁ s.heap s'.heap
  os : s'.os = s.os
  bare : AllBare s.gens → AllBare s'.gens
theorem Go.refl {n₁ : Nat} {s : Shared} : Go n₁ s s := ⟨KpOn.refl, rfl, fun x => x⟩
theorem Go.trans {n₁ : Nat} {s s' s'' : Shared} (x : Go n₁ s s') (y : Go n₁ s' s'') : Go n₁ s s'' := ⟨x.kp.trans y.kp, y.os.trans x.os, fun z => y.bare (x.bare z)⟩
theorem Go.keep {n₁ : Nat} {s : Shared} {h' : Heap} {tk : Nat} (k : ∀ b o, s.heap.get? b = some o → h'.get? b = some o) : Go n₁ s { s with heap := h', toks := tk } := ⟨Kp.of_keep k, rfl, fun x => x⟩
theorem Go.toks {n₁ : Nat} {s : Shared} {tk : Nat} : Go n₁ s { s with toks := tk } := ⟨KpOn.refl, rfl, fun x => x⟩
theorem Go.of_keeps {n₁ : Nat} {s s' : Shared} (k : Keeps s s') : Go n₁ s s' := by
  obtain ⟨h', tk, rfl, kk⟩ := k
  exact Go.keep kk
end Mine
end

section
open PySem PySem.W PyProof.Rows PySem.SeqAt
set_option Elab.async false
set_option maxRecDepth 100000
namespace Mine

section
variable {M : Model} {A : Around} {E : Value → Shared → Prop} {s : Shared}
/-- a comprehension's own block: its names' table, then a cell for each name that is one -/
theorem newEnv_comp {scope : Scope} {globals : Addr} {cl : List (Str × Addr)} {qual : Str} {env : Env} {b : Addr} {Q : Env → Shared → Prop}
    (h : Q (newEnv scope s.heap.objs.size globals (cellsFrom (s.heap.objs.size + 1) scope.names cl) qual none .none (some env) b)
      { s with heap := pushCells (s.heap.push { cls := .type "dict", data := .dict #[] }) scope.names }) :
    wpAny M A (newFunctionEnv scope globals cl [] qual none .none (some env) b) Q E s := by
  simp only [newFunctionEnv, Option.isSome_some, if_true]
  refine wpAny_bind (wpAny_alloc ?_)
  refine wpAny_bind (wpAny_layCells _ (fun name kind cells => by cases kind == NameKind.cell <;> simp) _ _ _ _ ?_)
  rw [show ({ s with heap := s.heap.push { cls := .type "dict", data := .dict #[] } } : Shared).heap.objs.size = s.heap.objs.size + 1 from Heap.size_push ..]
  rw [List.forIn_nil]
  exact wpAny_bind (wpAny_pure (wpAny_pure h))
end

theorem pushCells_size : ∀ (names : List (Str × NameKind)) (h : Heap), h.objs.size ≤ (pushCells h names).objs.size
  | [], _ => Nat.le_refl _
  | (_, k) :: r, h => by
    unfold pushCells
    split
    · exact Nat.le_trans (by rw [Heap.size_push]; exact Nat.le_succ _) (pushCells_size r _)
    · exact pushCells_size r h

/-- the own places of a comprehension at work: its names' table C and its own cells -/
def OwnAt (C : Nat) (own : List (Str × Addr)) (h : Heap) : Prop := (∃ m, h.Ns C m ∧ ∃ o, h.get? C = some o ∧ True) ∧ ∀ p ∈ own, ∃ v, IsCl h p.2 v
def offOwn (C : Nat) (own : List (Str × Addr)) (b : Nat) : Prop := (b : Nat) ≠ C ∧ ∀ p ∈ own, (b : Nat) ≠ p.2

section
variable {prog : Program} {w : World} {A : Around} {n₁ : Nat}

theorem compLoop_go {elt target iter : Expr} {ifs : List Expr} {scope : Scope} {pos : Pos} {it acc : Value} {env : Env} {R : Result → Shared → Prop} {s : Shared} (I : Nat → Shared → Prop)
    (turn : ∀ n s, I n s → wpAny (model prog w) A (pyNext it) (fun r s₁ => match r with
      | none => R (.ok .next) s₁
      | some v => wpAny (model prog w) A (letOwnedTupleGo target it v) (fun _ s₁ => wpAny (model prog w) A (assign target env v) (fun _ s₂ =>
          wpAny (model prog w) A (forIn ifs true fun c r => if r = true then do let ok ← isTrue c env (eval c env); pure (ForInStep.yield ok) else pure (ForInStep.yield r)) (fun ok s₃ =>
            if ok = true then wpAny (model prog w) A (eval elt env) (fun x s₄ =>
              wpAny (model prog w) A (call (.builtin "list.append") [acc, x]) (fun _ s₅ => ∃ m, m < n ∧ I m s₅) (notedBy (model prog w) A env fun e s' => R (.error e) s') s₄) (notedBy (model prog w) A env fun e s' => R (.error e) s') s₃
            else ∃ m, m < n ∧ I m s₃) (notedBy (model prog w) A env fun e s' => R (.error e) s') s₂) (notedBy (model prog w) A env fun e s' => R (.error e) s') s₁) (notedBy (model prog w) A env fun e s' => R (.error e) s') s₁) (notedBy (model prog w) A env fun e s' => R (.error e) s') s)
    (n : Nat) (h : I n s) :
    codeAny (model prog w) A (.compLoop (.ListComp elt [⟨target, iter, ifs, 0⟩] scope pos) 0 it acc env) R s := by
  refine codeAny_loop rfl I (fun n s hI => ?_) n h
  show wpAny _ A ((compTurn (.ListComp elt [⟨target, iter, ifs, 0⟩] scope pos) 0 it acc env).onRaise (fun x => do noteFrame x env; theTreesLotGoes x)) _ _ s
  refine wpAny_noted ?_
  rw [compTurn_list]
  refine wpAny_bind (wpAny_standAt (wpAny_bind (wpAny_mono (turn n s hI) (fun r s₁ h₁ => ?_) fun _ _ h' => h')))
  cases r with
  | none => exact wpAny_pure h₁
  | some v =>
    refine wpAny_bind (wpAny_mono h₁ (fun _ s₁ h₁ => ?_) fun _ _ h' => h')
    refine wpAny_bind (wpAny_mono h₁ (fun _ s₂ h₂ => wpAny_bind (wpAny_mono h₂ (fun ok s₃ h₃ => ?_) fun _ _ h' => h')) fun _ _ h' => h')
    cases ok with
    | false => exact wpAny_pure ⟨rfl, h₃⟩
    | true =>
      exact wpAny_bind (wpAny_bind (wpAny_mono h₃ (fun x s₄ h₄ => wpAny_bind (wpAny_mono h₄ (fun _ s₅ h₅ => wpAny_pure (wpAny_pure ⟨rfl, h₅⟩)) fun _ _ h' => h')) fun _ _ h' => h'))

/-- what is asked of the target beside: an iterator that owns no tuple -/
def GoesOn (prog : Program) (w : World) (A : Around) (target : Expr) (I : Nat) (St : Nat → Heap → Prop) : Prop :=
  ∀ (i : Nat) (v : Value) (s : Shared) (Q : Unit → Shared → Prop) (E : Value → Shared → Prop), St i s.heap → Q () s → wpAny (model prog w) A (letOwnedTupleGo target (.ref I) v) Q E s
theorem goesOn_name {x : Str} {px : Pos} {I : Nat} {St : Nat → Heap → Prop} : GoesOn prog w A (.Name x px) I St := fun _ _ _ _ _ _ h => wpAny_pure h
theorem goesOn_list {target : Expr} {I ax : Nat} {items : Array Value} : GoesOn prog w A target I (fun i h => h.IsListIter I ax i ∧ h.IsList ax items) := fun i v s Q E st h => by
  obtain ⟨o, ho, hc, hd⟩ := st.1
  unfold letOwnedTupleGo
  split
  · cases v with
    | ref a =>
      refine wpAny_bind (wpAny_load ho ?_)
      rw [hc, hd]
      exact wpAny_pure h
    | _ => exact wpAny_pure h
  · cases v with
    | ref a =>
      refine wpAny_bind (wpAny_load ho ?_)
      rw [hc, hd]
      exact wpAny_pure h
    | _ => exact wpAny_pure h
  · exact wpAny_pure h

/-- A comprehension's loop by an invariant over what it has made. -/
theorem comp_loop {elt target iter : Expr} {ifs : List Expr} {scope : Scope} {pos : Pos} {I D C : Nat} {own : List (Str × Addr)} {cenv : Env} {fp : List Nat} {n : Nat} {P : Nat → Value → Prop} {St : Nat → Heap → Prop} {R : Result → Shared → Prop} {s : Shared}
    (W : Walks prog w A I fp [I] n P St) (hfp : ∀ i h b o, St i h → b ∈ fp → h.get? b = some o → ¬ Tabled o)
    (hfo : ∀ b ∈ fp, offOwn C own b) (hD : offOwn C own D) (hID : I ≠ D) (hDf : D ∉ fp)
    (Inv : Nat → List Value → Shared → Prop)
    (stable : ∀ i ys s s', Inv i ys s → KpOn n₁ (fun b => @Ne Nat b I ∧ @Ne Nat b D) s.heap s'.heap → s'.gens = s.gens → s'.os = s.os → Inv i ys s')
    (turn : ∀ i v ys s, i < n → P i v → Inv i ys s → OwnAt C own s.heap → ∀ E' : Value → Shared → Prop,
      wpAny (model prog w) A (assign target cenv v) (fun _ s₂ =>
        wpAny (model prog w) A (forIn ifs true fun c r => if r = true then do let ok ← isTrue c cenv (eval c cenv); pure (ForInStep.yield ok) else pure (ForInStep.yield r)) (fun ok s₃ =>
          if ok = true then wpAny (model prog w) A (eval elt cenv) (fun y s₄ => KpOn n₁ (offOwn C own) s.heap s₄.heap ∧ OwnAt C own s₄.heap ∧ Inv (i + 1) (ys ++ [y]) s₄) E' s₃
          else KpOn n₁ (offOwn C own) s.heap s₃.heap ∧ OwnAt C own s₃.heap ∧ Inv (i + 1) ys s₃) E' s₂) E' s)
    (hst : St 0 s.heap) (hacc : s.heap.get? D = some { cls := .type "list", data := .seq #[] }) (hown : OwnAt C own s.heap) (h0 : Inv 0 [] s) (hsz : n ≤ sizeLine)
    (hC : C ≠ I ∧ C ≠ D) (hoo : ∀ p ∈ own, @Ne Nat p.2 I ∧ @Ne Nat p.2 D)
    (hR : ∀ ys s', Inv n ys s' → OwnAt C own s'.heap → s'.heap.IsList D ys.toArray → R (.ok .next) s')
    (ht : GoesOn prog w A target I St) :
    codeAny (model prog w) A (.compLoop (.ListComp elt [⟨target, iter, ifs, 0⟩] scope pos) 0 (.ref I) (.ref D) cenv) R s := by
  refine compLoop_go
    (fun k s' => ∃ i ys e, i ≤ n ∧ k = n + 1 - i ∧ ys.length ≤ i ∧ St i s'.heap ∧ s'.heap.get? D = some { cls := .type "list", data := .seq ys.toArray e } ∧ OwnAt C own s'.heap ∧ Inv i ys s') ?_ (n + 1)
    ⟨0, [], 0, Nat.zero_le _, rfl, Nat.le_refl _, hst, hacc, hown, h0⟩
  rintro k s' ⟨i, ys, e, hi, rfl, hyl, hst', hacc', hown', hinv⟩
  have ownKeep : ∀ {h h' : Heap}, (∀ b o, b ∉ [I] → h.get? b = some o → h'.get? b = some o) → OwnAt C own h → OwnAt C own h' := fun {h h'} hk ho => by
    obtain ⟨⟨m, hn, o, e1, e2⟩, hc⟩ := ho
    refine ⟨⟨m, hn.at' fun o e => hk _ _ (by simpa using hC.1) e, o, hk _ _ (by simpa using hC.1) e1, e2⟩, fun p hp => ?_⟩
    obtain ⟨v, o, a, b, d⟩ := hc p hp
    exact ⟨v, o, hk _ _ (by simpa using (hoo p hp).1) a, b, d⟩
  by_cases hlt : i < n
  · refine W.item i _ _ _ hlt hst' fun v h₁ tk₁ hPv hst₁ hk₁ => ?_
    have inv₁ : Inv i ys { s' with heap := h₁, toks := tk₁ } := stable _ _ _ _ hinv (KpOn.of_keep fun b o hb e => hk₁ b o (by simpa using hb.1) e) rfl rfl
    refine ht (i + 1) v _ _ _ hst₁ ?_
    refine wpAny_mono (turn i v ys _ hlt hPv inv₁ (ownKeep hk₁ hown') _) (fun _ s₂ h₂ => ?_) fun _ _ x => x
    refine wpAny_mono h₂ (fun ok s₃ h₃ => ?_) fun _ _ x => x
    have accD : h₁.get? D = some { cls := .type "list", data := .seq ys.toArray e } := hk₁ D _ (by simpa using Ne.symm hID) hacc'
    cases ok with
    | true =>
      simp only [if_true] at h₃ ⊢
      refine wpAny_mono h₃ (fun y s₄ h₄ => ?_) fun _ _ x => x
      obtain ⟨k4, o4, i4⟩ := h₄
      have st4 : St (i + 1) s₄.heap := W.frame _ _ _ hst₁ fun b hb o eb => k4.get (hfo b hb) eb (hfp _ _ b o hst₁ hb eb)
      have a4 : s₄.heap.get? D = some { cls := .type "list", data := .seq ys.toArray e } := k4.get hD accD (by rintro ⟨_, _, q⟩; cases q)
      refine append_at (hsz := by rw [List.size_toArray]; exact Nat.le_trans (Nat.le_trans hyl hi) hsz) a4 fun h₅ hs₅ hD₅ => ?_
      refine ⟨n + 1 - (i + 1), by omega, i + 1, ys ++ [y], e + 1, hlt, rfl, by rw [List.length_append, List.length_singleton]; exact Nat.succ_le_succ hyl, ?_, ?_, ?_, ?_⟩
      · exact W.frame _ _ _ st4 fun b hb o eb => hs₅.extBut b o (fun q => hDf (q ▸ hb)) eb
      · rw [hD₅, List.push_toArray]
      · obtain ⟨⟨m, hn, o, e1, e2⟩, hc⟩ := o4
        refine ⟨⟨m, hn.sameBut hs₅ hC.2, o, hs₅.extBut _ _ hC.2 e1, e2⟩, fun p hp => ?_⟩
        obtain ⟨v, o, a, b, d⟩ := hc p hp
        exact ⟨v, o, hs₅.extBut _ _ (hoo p hp).2 a, b, d⟩
      · exact stable _ _ _ _ i4 (KpOn.of_same hs₅ fun b hb => hb.2) rfl rfl
    | false =>
      simp only [Bool.false_eq_true, if_false] at h₃ ⊢
      obtain ⟨k4, o4, i4⟩ := h₃
      refine ⟨n + 1 - (i + 1), by omega, i + 1, ys, e, hlt, rfl, Nat.le_succ_of_le hyl, ?_, k4.get hD accD (by rintro ⟨_, _, q⟩; cases q), o4, i4⟩
      exact W.frame _ _ _ hst₁ fun b hb o eb => k4.get (hfo b hb) eb (hfp _ _ b o hst₁ hb eb)
  · obtain rfl : i = n := Nat.le_antisymm hi (Nat.not_lt.mp hlt)
    refine W.done _ _ _ hst' fun h₂ tk₂ hk₂ => ?_
    have inv₁ : Inv i ys { s' with heap := h₂, toks := tk₂ } := stable _ _ _ _ hinv (KpOn.of_keep fun b o hb e => hk₂ b o (by simpa using hb.1) e) rfl rfl
    exact hR ys _ inv₁ (ownKeep hk₂ hown') ⟨_, hk₂ D _ (by simpa using Ne.symm hID) hacc', rfl, _, rfl⟩
end
end Mine
end

section
open PySem PySem.W PyProof.Rows PySem.SeqAt
set_option Elab.async false
set_option maxRecDepth 100000
namespace Mine

def ncells (names : List (Str × NameKind)) : Nat := (names.filter fun p => p.2 == .cell).length

theorem cellsFrom_app : ∀ (names : List (Str × NameKind)) (n : Nat) (acc : List (Str × Addr)), cellsFrom n names acc = cellsFrom n names [] ++ acc
  | [], _, _ => rfl
  | (x, k) :: r, n, acc => by
    unfold cellsFrom
    split
    · rw [cellsFrom_app r _ ((x, n) :: acc), cellsFrom_app r _ [(x, n)]]; simp
    · exact cellsFrom_app r n acc
theorem cellsFrom_range : ∀ (names : List (Str × NameKind)) (n : Nat), ∀ p ∈ cellsFrom n names [], @LE.le Nat _ n p.2 ∧ @LT.lt Nat _ p.2 (n + ncells names)
  | [], _, _, hp => nomatch hp
  | (x, k) :: r, n, p, hp => by
    unfold cellsFrom at hp
    by_cases hk : (k == NameKind.cell) = true
    · rw [if_pos hk, cellsFrom_app] at hp
      have e : ncells ((x, k) :: r) = ncells r + 1 := by simp only [ncells, List.filter_cons, hk, if_true, List.length_cons]
      rw [e]
      rcases List.mem_append.mp hp with h | h
      · have := cellsFrom_range r (n + 1) p h; omega
      · have : p = (x, n) := by simpa using h
        subst this; exact ⟨Nat.le_refl _, by show n < _; omega⟩
    · rw [if_neg hk] at hp
      have e : ncells ((x, k) :: r) = ncells r := by simp only [ncells, List.filter_cons, hk, if_false, Bool.false_eq_true]
      rw [e]; exact cellsFrom_range r n p hp
theorem pushCells_cl : ∀ (names : List (Str × NameKind)) (h : Heap), ∀ p ∈ cellsFrom h.objs.size names [], IsCl (pushCells h names) p.2 none
  | [], _, _, hp => nomatch hp
  | (x, k) :: r, h, p, hp => by
    unfold cellsFrom at hp
    unfold pushCells
    split at hp
    · rename_i hk
      rw [if_pos hk]
      rw [cellsFrom_app] at hp
      rcases List.mem_append.mp hp with h1 | h1
      · exact pushCells_cl r (h.push _) p (by rw [Heap.size_push]; exact h1)
      · have : p = (x, h.objs.size) := by simpa using h1
        subst this
        exact ⟨_, pushCells_keeps r _ _ _ (Heap.get?_push_size _ rfl), trivial, rfl⟩
    · rename_i hk
      rw [if_neg hk]
      exact pushCells_cl r h p hp

section
variable {prog : Program} {w : World} {A : Around} {E : Value → Shared → Prop} {n₁ : Nat} {env : Env}

/-- What a comprehension's turn is asked. The iterator lies at I, the list that grows at I + 1, the names' table at I + 2, own cells behind. -/
def TurnOk (prog : Program) (w : World) (A : Around) (n₁ : Nat) (env : Env) (scope : Scope) (cl : List (Str × Addr)) (elt target : Expr) (ifs : List Expr) (I n : Nat) (P : Nat → Value → Prop) (Inv : Nat → List Value → Shared → Prop) : Prop :=
  ∀ i v ys s, i < n → P i v → Inv i ys s → OwnAt (I + 2) (cellsFrom (I + 3) scope.names []) s.heap → ∀ E' : Value → Shared → Prop,
    wpAny (model prog w) A (assign target (compEnvC scope (cellsFrom (I + 3) scope.names cl) (I + 2) env) v) (fun _ s₂ =>
      wpAny (model prog w) A (forIn ifs true fun c r => if r = true then do let ok ← isTrue c (compEnvC scope (cellsFrom (I + 3) scope.names cl) (I + 2) env) (eval c (compEnvC scope (cellsFrom (I + 3) scope.names cl) (I + 2) env)); pure (ForInStep.yield ok) else pure (ForInStep.yield r)) (fun ok s₃ =>
        if ok = true then wpAny (model prog w) A (eval elt (compEnvC scope (cellsFrom (I + 3) scope.names cl) (I + 2) env)) (fun y s₄ => KpOn n₁ (offOwn (I + 2) (cellsFrom (I + 3) scope.names [])) s.heap s₄.heap ∧ OwnAt (I + 2) (cellsFrom (I + 3) scope.names []) s₄.heap ∧ Inv (i + 1) (ys ++ [y]) s₄) E' s₃
        else KpOn n₁ (offOwn (I + 2) (cellsFrom (I + 3) scope.names [])) s.heap s₃.heap ∧ OwnAt (I + 2) (cellsFrom (I + 3) scope.names []) s₃.heap ∧ Inv (i + 1) ys s₃) E' s₂) E' s
/-- the places that are not the comprehension's own -/
def outC (I k : Nat) (b : Nat) : Prop := b < I ∨ I + 3 + k ≤ b

theorem comp_block {elt target iter : Expr} {ifs : List Expr} {scope : Scope} {cl : List (Str × Addr)} {pos : Pos} {s₂ : Shared} {I : Nat} {fp : List Nat} {n : Nat} {P : Nat → Value → Prop} {St : Nat → Heap → Prop} {RR : Value → Addr → Result → Shared → Prop}
    (W : Walks prog w A I fp [I] n P St) (hfp : ∀ i h b o, St i h → b ∈ fp → h.get? b = some o → ¬ Tabled o) (hfl : ∀ b ∈ fp, b ≤ I) (hI : I + 1 = s₂.heap.objs.size) (hsz : n ≤ sizeLine)
    (Inv : Nat → List Value → Shared → Prop)
    (stable : ∀ i ys s s', Inv i ys s → KpOn n₁ (outC I (ncells scope.names)) s.heap s'.heap → s'.gens = s.gens → s'.os = s.os → Inv i ys s')
    (hst : St 0 s₂.heap) (h0 : Inv 0 [] s₂)
    (turn : TurnOk prog w A n₁ env scope cl elt target ifs I n P Inv)
    (hRR : ∀ ys s', Inv n ys s' → (∃ m, s'.heap.Ns (I + 2) m) → s'.heap.IsList (I + 1) ys.toArray → RR (.ref (I + 1)) (I + 2) (.ok .next) s')
    (ht : GoesOn prog w A target I St) :
    wpAny (model prog w) A (newList []) (fun acc s₃ => wpAny (model prog w) A (newFunctionEnv scope env.globals cl [] env.qual none .none (some env)) (fun cenv s₄ =>
      codeAny (model prog w) A (.compStart (.ListComp elt [⟨target, iter, ifs, 0⟩] scope pos) 0 (.ref I) acc { cenv with scope := relabel scope env }) (RR acc cenv.locals) s₄) E s₃) E s₂ := by
  refine wpAny_newObj_type (newEnv_comp ?_)
  have hD : s₂.heap.objs.size = I + 1 := hI.symm
  have hC : ({ s₂ with heap := s₂.heap.push { cls := .type "list", dict := none, data := .seq ([] : List Value).toArray } } : Shared).heap.objs.size = I + 2 := by
    show (s₂.heap.push _).objs.size = _
    rw [Heap.size_push, hD]
  rw [hC, hD]
  generalize hH2 : ({ s₂ with heap := s₂.heap.push { cls := .type "list", dict := none, data := .seq ([] : List Value).toArray } } : Shared) = S2
  have hS2 : S2.heap = s₂.heap.push { cls := .type "list", dict := none, data := .seq ([] : List Value).toArray } := by rw [← hH2]
  have hC' : S2.heap.objs.size = I + 2 := by rw [← hC, hH2]
  show codeAny (model prog w) A (.compStart (.ListComp elt [⟨target, iter, ifs, 0⟩] scope pos) 0 (.ref I) (.ref (I + 1)) (compEnvC scope (cellsFrom (I + 3) scope.names cl) (I + 2) env)) (RR (.ref (I + 1)) (I + 2)) _
  have kp : ∀ b o, s₂.heap.get? b = some o → (pushCells (S2.heap.push { cls := .type "dict", data := .dict #[] }) scope.names).get? b = some o := fun b o e =>
    pushCells_keeps _ _ _ _ (Heap.get?_push_of_some _ (by rw [hS2]; exact Heap.get?_push_of_some _ e))
  have eD : (pushCells (S2.heap.push { cls := .type "dict", data := .dict #[] }) scope.names).get? (I + 1) = some { cls := .type "list", data := .seq #[] } := by
    refine pushCells_keeps _ _ _ _ (Heap.get?_push_of_some _ ?_)
    rw [hS2, ← hD]; exact Heap.get?_push_size _ rfl
  have eC : (pushCells (S2.heap.push { cls := .type "dict", data := .dict #[] }) scope.names).get? (I + 2) = some { cls := .type "dict", data := .dict #[] } := by
    refine pushCells_keeps _ _ _ _ ?_
    rw [← hC']; exact Heap.get?_push_size _ rfl
  have hn : (pushCells (S2.heap.push { cls := .type "dict", data := .dict #[] }) scope.names).Ns (I + 2) fun _ => none := by
    have := (Heap.Ns.new S2.heap (.type "dict")).keeps (pushCells_keeps scope.names (S2.heap.push { cls := .type "dict", data := .dict #[] }))
    rw [hC'] at this; exact this
  have cr := cellsFrom_range scope.names (I + 3)
  have own : OwnAt (I + 2) (cellsFrom (I + 3) scope.names []) (pushCells (S2.heap.push { cls := .type "dict", data := .dict #[] }) scope.names) := by
    refine ⟨⟨_, hn, _, eC, trivial⟩, fun p hp => ⟨none, pushCells_cl scope.names _ p ?_⟩⟩
    rw [Heap.size_push, hC']; exact hp
  have off : ∀ b : Nat, b ≤ I + 1 → offOwn (I + 2) (cellsFrom (I + 3) scope.names []) b := fun b hb => ⟨by omega, fun p hp => by have := cr p hp; omega⟩
  have outOk : ∀ b : Nat, outC I (ncells scope.names) b → b ≠ I ∧ b ≠ I + 1 := fun b hb => by unfold outC at hb; omega
  have st0 := W.frame 0 _ (pushCells (S2.heap.push { cls := .type "dict", data := .dict #[] }) scope.names) hst fun b _ o e => kp b o e
  have inv0 : Inv 0 [] { S2 with heap := pushCells (S2.heap.push { cls := .type "dict", data := .dict #[] }) scope.names } := stable _ _ _ _ h0 (KpOn.of_keep fun b o _ e => kp b o e) (by rw [← hH2]) (by rw [← hH2])
  have loop : codeAny (model prog w) A (.compLoop (.ListComp elt [⟨target, iter, ifs, 0⟩] scope pos) 0 (.ref I) (.ref (I + 1)) (compEnvC scope (cellsFrom (I + 3) scope.names cl) (I + 2) env)) (RR (.ref (I + 1)) (I + 2))
      { S2 with heap := pushCells (S2.heap.push { cls := .type "dict", data := .dict #[] }) scope.names } := by
    refine comp_loop (n₁ := n₁) (own := cellsFrom (I + 3) scope.names []) (C := I + 2) W hfp (fun b hb => off b (Nat.le_succ_of_le (hfl b hb))) (off _ (Nat.le_refl _)) (by omega) (fun hm => by have := hfl _ hm; omega)
      Inv (fun i ys s s' hi hk => stable i ys s s' hi (hk.mono outOk)) turn st0 eD own inv0 hsz ⟨by omega, by omega⟩ (fun p hp => by have := cr p hp; omega) (fun ys s' hi ho hl => hRR ys s' hi (let ⟨⟨m, hm, _⟩, _⟩ := ho; ⟨m, hm⟩) hl) ht
  exact codeAny_compStart_list loop (W.self 0 _ _ _ st0 loop)

theorem isListIter_cls {h : Heap} {I l i : Nat} {o : Obj} (x : h.IsListIter I l i) (e : h.get? I = some o) : ¬ Tabled o := by
  obtain ⟨o', e', hc, hd⟩ := x
  rw [e] at e'; cases e'
  rintro ⟨_, _, q⟩; rw [hd] at q; cases q
theorem isList_cls {h : Heap} {l : Addr} {items : Array Value} {o : Obj} (x : h.IsList l items) (e : h.get? l = some o) : ¬ Tabled o := by
  obtain ⟨o', e', hc, n, hd⟩ := x
  rw [e] at e'; cases e'
  rintro ⟨_, _, q⟩; rw [hd] at q; cases q

/-- A list comprehension over a list: what is asked of the state s₁ behind its source. I = the size of the heap there. -/
def CompOver (prog : Program) (w : World) (A : Around) (n₁ : Nat) (env : Env) (scope : Scope) (cl : List (Str × Addr)) (elt target : Expr) (ifs : List Expr) (Fin : List Value → Nat → Shared → Prop) (xv : Value) (s₁ : Shared) : Prop :=
  ∃ l items, xv = .ref l ∧ s₁.heap.IsList l items ∧ items.size ≤ sizeLine ∧ A.handled = none ∧ ∃ Inv : Nat → List Value → Shared → Prop,
    (∀ i ys s s', Inv i ys s → KpOn n₁ (outC s₁.heap.objs.size (ncells scope.names)) s.heap s'.heap → s'.gens = s.gens → s'.os = s.os → Inv i ys s') ∧ Inv 0 [] s₁ ∧
    TurnOk prog w A n₁ env scope cl elt target ifs s₁.heap.objs.size items.size (fun i v => items[i]? = some v) Inv ∧
    ∀ ys s', Inv items.size ys s' → (∃ m, s'.heap.Ns (s₁.heap.objs.size + 2) m) → s'.heap.IsList (s₁.heap.objs.size + 1) ys.toArray → Fin ys s₁.heap.objs.size s'

theorem comp_list {elt target iter : Expr} {ifs : List Expr} {scope : Scope} {cl : List (Str × Addr)} {pos cpos : Pos} {s : Shared} {use : Option (Value → Sem Unit)} {Q : Value → Shared → Prop}
    (hclos : closureFor scope env = pure cl) (hkind : scope.kind = .function) (hnames : ∀ y ∈ scope.names, y.2 = .local → scope.names.lookup y.1 = some .local)
    (h : wpAny (model prog w) A (eval iter env) (CompOver prog w A n₁ env scope cl elt target ifs (fun _ I s' => compPost (model prog w) A E use Q (.ref (I + 1)) (I + 2) (.ok .next) s')) E s)
    (hs : ∀ x, foldedSetIterable iter env x = pure x := by intro _; rfl) :
    wpAny (model prog w) A (comprehension (.ListComp elt [⟨target, iter, ifs, 0⟩] scope pos) scope env cpos (newList []) false (eval iter env) use) Q E s := by
  refine wpAny_comprehension_free rfl hs hclos hkind hnames (wpAny_mono h (fun xv s₁ h₁ => ?_) fun _ _ e => e)
  obtain ⟨l, items, rfl, hl, hsz, hh, Inv, stable, h0, turn, hend⟩ := h₁
  refine wpAny_pyIter_list hl ?_
  have up : ∀ b o, s₁.heap.get? b = some o → (s₁.heap.push { cls := .type "list_iterator", data := .fields #[.ref l, .int 0 0] }).get? b = some o := fun b o e => Heap.get?_push_of_some _ e
  have hlt : @LT.lt Nat _ l s₁.heap.objs.size := by obtain ⟨_, e, _⟩ := hl; exact Heap.lt_size e
  refine comp_block (n₁ := n₁) (Walks.list hh s₁.heap.objs.size l (Nat.ne_of_lt hlt) items) (fun i h b o st hb e => ?_) (fun b hb => ?_) (by show _ = (s₁.heap.push _).objs.size; rw [Heap.size_push]) hsz Inv stable
    ⟨⟨_, Heap.get?_push_size _ rfl, rfl, rfl⟩, hl.push _⟩ (stable _ _ _ _ h0 (KpOn.of_keep fun b o _ e => up b o e) rfl rfl) turn (fun ys s' hi hm hd => ?_) goesOn_list
  · rcases List.mem_cons.mp hb with rfl | hb
    · exact isListIter_cls st.1 e
    · rw [List.mem_singleton.mp hb] at e; exact isList_cls st.2 e
  · rcases List.mem_cons.mp hb with rfl | hb
    · exact Nat.le_refl _
    · rw [List.mem_singleton.mp hb]; exact Nat.le_of_lt hlt
  · exact hend ys s' hi hm hd

/-- the same over a range -/
def CompOverR (prog : Program) (w : World) (A : Around) (n₁ : Nat) (env : Env) (scope : Scope) (cl : List (Str × Addr)) (elt target : Expr) (ifs : List Expr) (Fin : List Value → Nat → Shared → Prop) (xv : Value) (s₁ : Shared) : Prop :=
  ∃ r t u v, ∃ n : Nat, xv = .ref r ∧ IsRange s₁.heap r 0 n 1 t u v ∧ Builtin.Range.small 0 n 1 = true ∧ Builtin.Range.rangeSize 0 n 1 = (n : Int) ∧ n ≤ sizeLine ∧ A.handled = none ∧ ∃ Inv : Nat → List Value → Shared → Prop,
    (∀ i ys s s', Inv i ys s → KpOn n₁ (outC s₁.heap.objs.size (ncells scope.names)) s.heap s'.heap → s'.gens = s.gens → s'.os = s.os → Inv i ys s') ∧ Inv 0 [] s₁ ∧
    TurnOk prog w A n₁ env scope cl elt target ifs s₁.heap.objs.size n (fun i v => ∃ t, v = .int (0 + (i : Int)) t) Inv ∧
    ∀ ys s', Inv n ys s' → (∃ m, s'.heap.Ns (s₁.heap.objs.size + 2) m) → s'.heap.IsList (s₁.heap.objs.size + 1) ys.toArray → Fin ys s₁.heap.objs.size s'
theorem comp_range {elt iter : Expr} {x : Str} {px : Pos} {ifs : List Expr} {scope : Scope} {cl : List (Str × Addr)} {pos cpos : Pos} {s : Shared} {use : Option (Value → Sem Unit)} {Q : Value → Shared → Prop}
    (hclos : closureFor scope env = pure cl) (hkind : scope.kind = .function) (hnames : ∀ y ∈ scope.names, y.2 = .local → scope.names.lookup y.1 = some .local)
    (h : wpAny (model prog w) A (eval iter env) (CompOverR prog w A n₁ env scope cl elt (.Name x px) ifs (fun _ I s' => compPost (model prog w) A E use Q (.ref (I + 1)) (I + 2) (.ok .next) s')) E s)
    (hs : ∀ x, foldedSetIterable iter env x = pure x := by intro _; rfl) :
    wpAny (model prog w) A (comprehension (.ListComp elt [⟨.Name x px, iter, ifs, 0⟩] scope pos) scope env cpos (newList []) false (eval iter env) use) Q E s := by
  refine wpAny_comprehension_free rfl hs hclos hkind hnames (wpAny_mono h (fun xv s₁ h₁ => ?_) fun _ _ e => e)
  obtain ⟨r, t, u, v, n, rfl, hr, hsm, hn, hsz, hh, Inv, stable, h0, turn, hend⟩ := h₁
  refine wpAny_pyIter_range hr hsm ?_
  refine comp_block (n₁ := n₁) (LCg.range_walks hh 0 n) (fun i h b o st hb e => ?_) (fun b hb => ?_) (by show _ = (s₁.heap.push _).objs.size; rw [Heap.size_push]) hsz Inv stable
    (by show IsRangeIter _ _ _ _ _; rw [hn]; simpa using Heap.get?_push_size _ rfl) (stable _ _ _ _ h0 (KpOn.of_keep fun b o _ e => Heap.get?_push_of_some _ e) rfl rfl) turn (fun ys s' hi hm hd => ?_) goesOn_name
  · rw [List.mem_singleton.mp hb] at e
    have st' : h.get? s₁.heap.objs.size = some _ := st
    rw [e] at st'; cases st'
    rintro ⟨_, _, q⟩; cases q
  · rw [List.mem_singleton.mp hb]; exact Nat.le_refl _
  · exact hend ys s' hi hm hd
end
end Mine
end

section
open PySem PySem.W PyProof.Rows PySem.SeqAt
set_option Elab.async false
set_option maxRecDepth 100000
namespace Mine

/-- the program's own defs, by their place in its text -/
def pBody : List Stmt := PySem.Challenge.pw_pe0072_01.main.body
def fB (i : Nat) : List Stmt := match pBody[i]? with | some (.FunctionDef _ _ b _ _ _ _ _ _ _) => b | _ => []
def fA (i : Nat) : Arguments := match pBody[i]? with | some (.FunctionDef _ a _ _ _ _ _ _ _ _) => a | _ => ⟨[], [], none, [], [], none, []⟩
def fS (i : Nat) : Scope := match pBody[i]? with | some (.FunctionDef _ _ _ _ _ _ s _ _ _) => s | _ => default
def fN (i : Nat) : Str := match pBody[i]? with | some (.FunctionDef n _ _ _ _ _ _ _ _ _) => n | _ => Str.empty

/-- a def of the text stands at a, its code at c -/
def FnAt (h : Heap) (i : Nat) (a : Addr) : Prop := ∃ o pm k, h.get? a = some o ∧ o.cls = .type "function" ∧ o.data = .func (Calls.docDef (fN i) (fA i) (fB i) (fS i) pm (.ref k) .none) ∧ h.CodeRec (.ref k) (fN i) ∧ k < 85

section
variable {prog : Program} {w : World} {A : Around} {E : Value → Shared → Prop} {s : Shared} {env : Env}

/-- a subscript: the road by the object's own __getitem__ -/
theorem sub_ {value slice : Expr} {pos : Pos} {Q : Value → Shared → Prop}
    (h : wpAny (model prog w) A (eval value env) (fun o s₁ => wpAny (model prog w) A (eval slice env) (fun i s₂ => ItemOn (model prog w) A E o i Q s₂) E s₁) E s)
    (hs : ∀ o i, subscripted slice false o i = operate [o, i] (getItem o i) := by intro _ _; rfl) :
    wpAny (model prog w) A (eval (.Subscript value slice pos) env) Q E s := by
  rw [eval_Subscript]
  refine wpAny_bind (wpAny_mono h (fun o s₁ h₁ => wpAny_bind (wpAny_holding (wpAny_mono h₁ (fun i s₂ h₂ => wpAny_bind (wpAny_standAt ?_)) fun _ _ x => x)))
    fun _ _ x => x)
  obtain ⟨T, id, hl, hT, hg⟩ := h₂
  have fin : wpAny (model prog w) A (subscripted slice false o i) (fun r s₃ => wpAny (model prog w) A (letTemporaryGo value o r >>= fun _ => pure r) Q E s₃) E s₂ := by
    rw [hs]
    exact wpAny_operating (wpAny_mono hg (fun r s₃ h₃ => wpAny_bind (wpAny_letTemporaryGo (wpAny_pure h₃))) fun _ _ x => x)
  first
    | (refine wpAny_bind ?_; rw [getitemInPython_of_ne hT.not_modules]; refine wpAny_bind (wpAny_specialOf hT hl ?_); exact wpAny_pure (wpAny_bind fin))
    | (refine wpAny_bind ?_; refine wpAny_bind (wpAny_specialOf hT hl ?_); exact wpAny_pure (wpAny_bind fin))

theorem item_list {l : Addr} {items : Array Value} {k : Int} {t : Tok} {x : Value} {Q : Value → Shared → Prop} (hl : s.heap.IsList l items) (h0 : 0 ≤ k) (hfit : k < 2 ^ 63) (hx : items[k.toNat]? = some x) (h : Q x s) :
    ItemOn (model prog w) A E (.ref l) (.int k t) Q s := ⟨"list", _, slot_list_getitem.lookup, hl.typeIs, wpAny_getItem_list hl h0 hfit hx h⟩

theorem nmL {x : Str} {pos : Pos} {m : Str → Option Value} {v : Value} {Q : Value → Shared → Prop} (hn : s.heap.Ns env.locals m) (hv : m x = some v) (h : Q v s)
    (hk : env.scope.kind = .function := by rfl) (hl : env.kindOf x = some .local := by rfl) (hd : (x == ("__debug__" : Str)) = false := by decide) :
    wpAny (model prog w) A (eval (.Name x pos) env) Q E s := wpAny_Name (wpAny_loadName_local hk hl hn hv h) hd
end
end Mine
end

section
open PySem PySem.W PyProof.Rows PySem.SeqAt PySem.Calls
set_option Elab.async false
set_option maxRecDepth 100000
namespace Mine

/-- what _law_worth gives, as ints -/
def stageOf (x : Int) : Int := [0, 10, 20, 30, 50, 100, 200].getD ((x.fdiv 36).fmod 7).toNat 0
def wdI (x : Int) : List Int := [x.fmod 3, (x.fdiv 3).fmod 12, stageOf x, if stageOf x > 0 then (x.fdiv 252).fmod 12 else 0]
def wd (x : Int) : List TV := (wdI x).map Sum.inl

theorem fmod_bounds (x : Int) (k : Int) (hk : 0 < k) : 0 ≤ x.fmod k ∧ x.fmod k < k := ⟨Int.fmod_nonneg_of_pos x hk, Int.fmod_lt_of_pos x hk⟩

/-- a list of the law's, made behind size n -/
def TL (h : Heap) (n : Nat) (ts : List TV) (v : Value) : Prop := ∃ a vs, v = .ref a ∧ n ≤ a ∧ h.IsList a vs ∧ Holds2 vs.toList ts

section
variable {prog : Program} {w : World} {A : Around} {E : Value → Shared → Prop} {s : Shared}

theorem getD_get {α : Type} (l : List α) (i : Nat) (d : α) (h : i < l.length) : l[i]? = some (l.getD i d) := by
  simp [List.getD_eq_getElem?_getD, h]

theorem stage_item {x : Int} {t0 t1 t2 t3 t4 t5 t6 : Tok} : ∃ tk, (#[Value.int 0 t0, .int 10 t1, .int 20 t2, .int 30 t3, .int 50 t4, .int 100 t5, .int 200 t6] : Array Value)[((x.fdiv 36).fmod 7).toNat]? = some (.int (stageOf x) tk) := by
  have b7 := fmod_bounds (x.fdiv 36) 7 (by decide)
  have hk : ((x.fdiv 36).fmod 7).toNat < 7 := by omega
  unfold stageOf
  generalize ((x.fdiv 36).fmod 7).toNat = k at hk
  rcases k with _ | _ | _ | _ | _ | _ | _ | k
  all_goals first | exact ⟨_, rfl⟩ | omega

set_option maxHeartbeats 4000000 in
theorem worth_call {x : Int} {t : Tok} {a : Addr} {Q : Value → Shared → Prop} (hf : FnAt s.heap 11 a) (hlim : s.heap.NoLimit) (hroom : A.depth < recursionLimit)
    (h : ∀ v s', Keeps s s' → TL s'.heap s.heap.objs.size (wd x) v → Q v s') : wpAny (model prog w) A (call (.ref a) [.int x t]) Q E s := by
  obtain ⟨o, pm, c, ho, -, hd, hcd, -⟩ := hf
  refine wpAny_call (call_plain_ret (binds := [(Str.ofString "x", Value.int x t)]) hroom ho hd hlim hcd rfl (by intro y hy; simp at hy; subst hy; rfl) (fun h₁ F => ?_) rfl rfl rfl (by decide +kernel))
  have b7 := fmod_bounds (x.fdiv 36) 7 (by decide)
  have N : News s.heap s.heap.objs.size h₁ [] := .nil
  iterate 27 walk1
  dsimp only
  obtain ⟨tk, hi⟩ := stage_item (x := x)
  refine tail_any (T := "list") (News.isList (by assumption) List.mem_cons_self).typeIs slot_list_getitem.lookup (wpAny_getItem_list (News.isList (by assumption) List.mem_cons_self) b7.1 (by omega) hi ?_) rfl
  repeat' (first | walk1 | (dsimp only; walk1))
  all_goals dsimp only
  · refine h _ _ ⟨_, _, rfl, fun b o e => Fr.keep (by assumption) b o e⟩ ⟨_, _, rfl, Nat.le_of_lt (Heap.Ns.lt (Fr.ns (by assumption))), News.isList (by assumption) List.mem_cons_self, ?_⟩
    have hs : stageOf x > 0 := by assumption
    simp only [Holds2, wd, wdI, if_pos hs]; rfl
  · refine h _ _ ⟨_, _, rfl, fun b o e => Fr.keep (by assumption) b o e⟩ ⟨_, _, rfl, Nat.le_of_lt (Heap.Ns.lt (Fr.ns (by assumption))), News.isList (by assumption) List.mem_cons_self, ?_⟩
    have hs : ¬ stageOf x > 0 := by assumption
    simp only [Holds2, wd, wdI, if_neg hs]; rfl
end
end Mine
end

section
open PySem PySem.W PyProof.Rows PySem.SeqAt PySem.Calls
set_option Elab.async false
set_option maxRecDepth 100000
namespace Mine

/-- the names of the text that the law reaches, and the built-in ones -/
def globTab : List (Str × Value) := [(Str.ofString "_iter_escaped_chars", .ref 38), (Str.ofString "_strip_quoted_realnames", .ref 45), (Str.ofString "_check_parenthesis", .ref 52), (Str.ofString "_twin_re_1", .ref 57),
  (Str.ofString "_ver_stages", .ref 58), (Str.ofString "_comparable_version", .ref 65), (Str.ofString "_law_spelled", .ref 72), (Str.ofString "_law_worth", .ref 79), (Str.ofString "__name__", .str (Str.ofString "law_pe0072_01") 407)]
def builtTab : List (Str × Value) := [(Str.ofString "str", .type "str"), (Str.ofString "int", .type "int"), (Str.ofString "ValueError", .type "ValueError"), (Str.ofString "enumerate", .type "enumerate"), (Str.ofString "sum", .builtin "sum"),
  (Str.ofString "sorted", .builtin "sorted"), (Str.ofString "range", .type "range"), (Str.ofString "type", .type "type"), (Str.ofString "bool", .type "bool"), (Str.ofString "len", .builtin "len")]
def reCode : Array Value := (#[14, 4, 0, 1, 4294967295, 17, 0, 7, 14, 24, 10, 1, 4294967295, 13, 5, 22, 48, 57, 0, 1, 15, 17, 15, 13, 11, 9, 0, 26624, 2147483648, 0, 0, 0, 0, 0, 0, 15, 2, 0, 17, 1, 1] : Array Int).map fun i => Value.int i 0
/-- the pairs of _ver_stages -/
def stageTab : List (Str × Int) := [(Str.ofString "dev", 10), (Str.ofString "alpha", 20), (Str.ofString "a", 20), (Str.ofString "beta", 30), (Str.ofString "b", 30), (Str.ofString "c", 40), (Str.ofString "RC", 50), (Str.ofString "rc", 50), (Str.ofString "pl", 200), (Str.ofString "p", 200)]

/-- What the run of the top has left, as far as the law reaches it. -/
structure Gl (h : Heap) : Prop where
  names : ∃ mg mb, h.Ns mainGlobals mg ∧ h.Ns builtinsNs mb ∧ (∀ p ∈ globTab, mg p.1 = some p.2) ∧ (∀ p ∈ builtTab, mg p.1 = none ∧ mb p.1 = some p.2)
  lim : h.NoLimit
  digits : ∃ mc, h.Ns cStatics mc ∧ mc "sys.int_max_str_digits" = none
  f2 : FnAt h 2 38
  f3 : FnAt h 3 45
  f4 : FnAt h 4 52
  f8 : FnAt h 8 65
  f10 : FnAt h 10 72
  f11 : FnAt h 11 79
  re : ∃ pt t u, h.get? 57 = some { cls := .type "re.Pattern", data := .fields #[.str pt t, .int 32 u, .int 1 0, .none, .none, .ref 56, .int 0 0] }
  code : h.get? 56 = some { cls := .type "tuple", data := .seq reCode }

def lowKeep (n₁ : Nat) (h h' : Heap) : Prop := ∀ b o, b < n₁ → h.get? b = some o → h'.get? b = some o
theorem KpOn.lowKeep {n₁ : Nat} {P : Addr → Prop} {h h' : Heap} (x : KpOn n₁ P h h') (hp : ∀ b, b < n₁ → P b) : lowKeep n₁ h h' := fun b _ hb e => x.low (hp b hb) e hb

section
variable {prog : Program} {w : World} {A : Around} {E : Value → Shared → Prop} {s : Shared} {env : Env}

theorem nmG {x : Str} {pos : Pos} {v : Value} {Q : Value → Shared → Prop} (G : Gl s.heap) (hx : (x, v) ∈ globTab) (h : Q v s) (hg : env.globals = mainGlobals := by rfl)
    (hk : env.scope.kind = .function := by rfl) (hl : env.kindOf x = some .globalImplicit := by rfl) (hd : (x == ("__debug__" : Str)) = false := by decide) :
    wpAny (model prog w) A (eval (.Name x pos) env) Q E s := by
  obtain ⟨mg, mb, g, b, t, _⟩ := G.names
  exact Name_function_global hk hl (loadGlobal_global (hg.symm ▸ g) (t _ hx) h) hd
theorem nmB {x : Str} {pos : Pos} {v : Value} {Q : Value → Shared → Prop} (G : Gl s.heap) (hx : (x, v) ∈ builtTab) (h : Q v s) (hg : env.globals = mainGlobals := by rfl) (hb : env.builtins = builtinsNs := by rfl)
    (hk : env.scope.kind = .function := by rfl) (hl : env.kindOf x = some .globalImplicit := by rfl) (hd : (x == ("__debug__" : Str)) = false := by decide) :
    wpAny (model prog w) A (eval (.Name x pos) env) Q E s := by
  obtain ⟨mg, mb, g, b, _, t⟩ := G.names
  exact Name_function_global hk hl (loadGlobal_builtin (hg.symm ▸ g) (t _ hx).1 (hb.symm ▸ b) (t _ hx).2 h) hd
end

theorem KpOn.codeRec {n₁ : Nat} {P : Addr → Prop} {h h' : Heap} (x : KpOn n₁ P h h') {k : Addr} {q : Str} (p : P k) (c : h.CodeRec (.ref k) q) : h'.CodeRec (.ref k) q := by
  obtain ⟨c, o, vs, t, e, g, d, r⟩ := c
  cases e
  obtain ⟨⟨sl, e⟩, _⟩ := x _ _ p g
  exact ⟨_, _, vs, t, rfl, e, d, r⟩
theorem FnAt.kp {n₁ : Nat} {P : Addr → Prop} {h h' : Heap} (x : KpOn n₁ P h h') (hp : ∀ b : Nat, b < 85 → P b) {i : Nat} {a : Nat} (ha : a < 85) (f : FnAt h i a) : FnAt h' i a := by
  obtain ⟨o, pm, k, e, c1, d, r, hk⟩ := f
  exact ⟨o, pm, k, x.get (hp a ha) e (by rintro ⟨_, _, q⟩; rw [d] at q; cases q), c1, d, x.codeRec (hp k hk) r, hk⟩
theorem Gl.kp {n₁ : Nat} {P : Addr → Prop} {h h' : Heap} (x : KpOn n₁ P h h') (hp : ∀ b : Nat, b < 85 → P b) (g : Gl h) : Gl h' where
  names := let ⟨mg, mb, a, b, r⟩ := g.names; ⟨mg, mb, x.ns (hp _ (by decide)) a, x.ns (hp _ (by decide)) b, r⟩
  lim := let ⟨mc, a, b⟩ := g.lim; ⟨mc, x.ns (hp _ (by decide)) a, b⟩
  digits := let ⟨mc, a, b⟩ := g.digits; ⟨mc, x.ns (hp _ (by decide)) a, b⟩
  f2 := g.f2.kp x hp (by decide)
  f3 := g.f3.kp x hp (by decide)
  f4 := g.f4.kp x hp (by decide)
  f8 := g.f8.kp x hp (by decide)
  f10 := g.f10.kp x hp (by decide)
  f11 := g.f11.kp x hp (by decide)
  re := let ⟨a, b, c, e⟩ := g.re; ⟨a, b, c, x.get (hp 57 (by decide)) e (by rintro ⟨_, _, q⟩; cases q)⟩
  code := x.get (hp 56 (by decide)) g.code (by rintro ⟨_, _, q⟩; cases q)
theorem Gl.keeps {h h' : Heap} (k : ∀ b o, h.get? b = some o → h'.get? b = some o) (x : Gl h) : Gl h' := x.kp (n₁ := 0) (Kp.of_keep k) fun _ _ => trivial
end Mine
end

section
open PySem PySem.W PyProof.Rows PySem.SeqAt PySem.Calls
set_option Elab.async false
set_option maxRecDepth 100000
namespace Mine
def tails : List Str := [Str.ofString "", Str.ofString "dev", Str.ofString "a", Str.ofString "b", Str.ofString "rc", Str.ofString ".", Str.ofString "pl"]
def tailOf (x : Int) : Str := tails.getD ((x.fdiv 36).fmod 7).toNat Str.empty
section
variable {prog : Program} {w : World} {A : Around} {E : Value → Shared → Prop} {s : Shared}
theorem tail_item {x : Int} {t0 t1 t2 t3 t4 t5 t6 : Tok} : ∃ tk, (#[Value.str (Str.ofString "") t0, .str (Str.ofString "dev") t1, .str (Str.ofString "a") t2, .str (Str.ofString "b") t3, .str (Str.ofString "rc") t4, .str (Str.ofString ".") t5, .str (Str.ofString "pl") t6] : Array Value)[((x.fdiv 36).fmod 7).toNat]? = some (.str (tailOf x) tk) := by
  have b7 := fmod_bounds (x.fdiv 36) 7 (by decide)
  have hk : ((x.fdiv 36).fmod 7).toNat < 7 := by omega
  unfold tailOf tails
  generalize ((x.fdiv 36).fmod 7).toNat = k at hk
  rcases k with _ | _ | _ | _ | _ | _ | _ | k
  all_goals first | exact ⟨_, rfl⟩ | omega

def sgnOf (x : Int) : Nat := [46, 95, 43, 45].getD ((x.fdiv 3024).fmod 4).toNat 46
theorem sgn_item {x : Int} : (seqIndex? ((x.fdiv 3024).fmod 4) (Str.ofString "._+-").length).bind ((Str.ofString "._+-").cps[·]?) = some (sgnOf x) := by
  have b4 := fmod_bounds (x.fdiv 3024) 4 (by decide)
  unfold sgnOf
  generalize (x.fdiv 3024).fmod 4 = k at b4
  have : k = 0 ∨ k = 1 ∨ k = 2 ∨ k = 3 := by omega
  rcases this with rfl | rfl | rfl | rfl <;> decide +kernel

def numS (n : Int) : Str := Str.ofString (toString n)
def zerosOf (x : Int) : Str := if (x.fdiv 12096).fmod 2 = 1 then Str.ofString "0" else Str.empty
def lastOf (x : Int) : Str := if tailOf x = Str.empty then Str.empty else numS ((x.fdiv 252).fmod 12)
/-- what _law_spelled gives -/
def spelled (x : Int) : Str := numS (x.fmod 3) ++ ⟨#[sgnOf x]⟩ ++ zerosOf x ++ numS ((x.fdiv 3).fmod 12) ++ tailOf x ++ lastOf x
theorem numS_len {n : Int} (h0 : 0 ≤ n) (h : n < 12) : (Str.ofString (toString n)).length ≤ 2 := by
  have : n = 0 ∨ n = 1 ∨ n = 2 ∨ n = 3 ∨ n = 4 ∨ n = 5 ∨ n = 6 ∨ n = 7 ∨ n = 8 ∨ n = 9 ∨ n = 10 ∨ n = 11 := by omega
  rcases this with rfl | rfl | rfl | rfl | rfl | rfl | rfl | rfl | rfl | rfl | rfl | rfl <;> decide +kernel
theorem tail_cases (x : Int) : tailOf x = Str.empty ∨ tailOf x = Str.ofString "dev" ∨ tailOf x = Str.ofString "a" ∨ tailOf x = Str.ofString "b" ∨ tailOf x = Str.ofString "rc" ∨ tailOf x = Str.ofString "." ∨ tailOf x = Str.ofString "pl" := by
  have b7 := fmod_bounds (x.fdiv 36) 7 (by decide)
  have hk : ((x.fdiv 36).fmod 7).toNat < 7 := by omega
  unfold tailOf tails
  generalize ((x.fdiv 36).fmod 7).toNat = k at hk
  rcases k with _ | _ | _ | _ | _ | _ | _ | k
  · left; decide +kernel
  all_goals first | (exfalso; omega) | (simp [List.getD_eq_getElem?_getD])
theorem tail_len (x : Int) : (tailOf x).length ≤ 3 := by
  rcases tail_cases x with h | h | h | h | h | h | h <;> rw [h] <;> decide +kernel
theorem zeros_mul {x : Int} : Txt.mul (Str.ofString "0") ((x.fdiv 12096).fmod 2) = zerosOf x := by
  have b2 := fmod_bounds (x.fdiv 12096) 2 (by decide)
  unfold zerosOf
  generalize (x.fdiv 12096).fmod 2 = k at b2
  have : k = 0 ∨ k = 1 := by omega
  rcases this with rfl | rfl <;> decide +kernel
theorem zeros_ok {x : Int} : MulOk (Str.ofString "0") ((x.fdiv 12096).fmod 2) := by
  have b2 := fmod_bounds (x.fdiv 12096) 2 (by decide)
  generalize (x.fdiv 12096).fmod 2 = k at b2
  have : k = 0 ∨ k = 1 := by omega
  rcases this with rfl | rfl
  · exact ⟨by decide, fun h => absurd (by decide) h, fun h => absurd (by decide) h⟩
  · exact ⟨by decide, fun _ h => by simp at h, fun _ h => by simp at h⟩
theorem zeros_len (x : Int) : (zerosOf x).length ≤ 1 := by
  unfold zerosOf; split <;> decide +kernel

set_option maxHeartbeats 4000000 in
theorem spelled_call {x : Int} {t : Tok} {Q : Value → Shared → Prop} (G : Gl s.heap) (hroom : A.depth < recursionLimit)
    (h : ∀ t' s', Keeps s s' → Q (.str (spelled x) t') s') : wpAny (model prog w) A (call (.ref 72) [.int x t]) Q E s := by
  obtain ⟨o, pm, c, ho, -, hd, hcd, -⟩ := G.f10
  refine wpAny_call (call_plain_ret (binds := [(Str.ofString "x", Value.int x t)]) hroom ho hd G.lim hcd rfl (by intro y hy; simp at hy; subst hy; rfl) (fun h₁ F => ?_) rfl rfl rfl (by decide +kernel))
  have b7 := fmod_bounds (x.fdiv 36) 7 (by decide)
  have b3 := fmod_bounds x 3 (by decide)
  have N : News s.heap s.heap.objs.size h₁ [] := .nil
  iterate 27 walk1
  dsimp only
  obtain ⟨tk, hi⟩ := tail_item (x := x)
  refine tail_any (T := "list") (News.isList (by assumption) List.mem_cons_self).typeIs slot_list_getitem.lookup (wpAny_getItem_list (News.isList (by assumption) List.mem_cons_self) b7.1 (by omega) hi ?_) rfl
  repeat' (first | walk1 | (dsimp only; walk1))
  dsimp only
  refine nmB (Gl.keeps (Fr.keep (by assumption)) G) (List.Mem.head _) ?_
  repeat' (first | walk1 | (dsimp only; walk1))
  dsimp only
  have b4 := fmod_bounds (x.fdiv 3024) 4 (by decide)
  refine tail_any (T := "str") (typeIs_str _ _ _) PySem.F.slot_str_getitem.lookup (P.getItem_str (by simp; omega) sgn_item ?_) rfl
  repeat' (first | walk1 | (dsimp only; walk1))
  dsimp only
  have b2 := fmod_bounds (x.fdiv 12096) 2 (by decide)
  refine PySem.SB.mul zeros_ok fun t1 k1 => ?_
  rw [zeros_mul]
  have b12 := fmod_bounds (x.fdiv 3) 12 (by decide)
  have b12' := fmod_bounds (x.fdiv 252) 12 (by decide)
  have l1 := numS_len b3.1 (by omega)
  have l2 := zeros_len x
  have l3 := numS_len b12.1 b12.2
  have l4 := numS_len b12'.1 b12'.2
  have l5 := tail_len x
  have ls : ∀ c : Nat, (⟨#[c]⟩ : Str).length = 1 := fun _ => rfl
  refine PyProof.Rows.add_str (hsz := ?hsz) (fun t2 k2 => ?_)
  case hsz => rw [sizeLine_eq]; simp only [Str.length_append, ls]; omega
  dsimp only
  walk1
  refine nmB (Gl.keeps (Fr.keep (by assumption)) G) (List.Mem.head _) ?_
  iterate 11 (first | walk1 | (dsimp only; walk1))
  try dsimp only
  refine PyProof.Rows.add_str (hsz := ?hsz) (fun t3 k3 => ?_)
  case hsz => rw [sizeLine_eq]; simp only [Str.length_append, ls]; omega
  dsimp only
  walk1
  refine PyProof.Rows.add_str (hsz := ?hsz) (fun t4 k4 => ?_)
  case hsz => rw [sizeLine_eq]; simp only [Str.length_append, ls]; omega
  dsimp only
  have e0 : Str.ofString "" = Str.empty := by decide +kernel
  repeat' (first | walk1 | (dsimp only; walk1))
  · dsimp only
    have hne : ¬ tailOf x = Str.empty := by
      intro he
      have hn : (tailOf x != Str.ofString "") = true := by assumption
      rw [he, e0] at hn
      exact absurd hn (by decide +kernel)
    refine nmB (Gl.keeps (Fr.keep (by assumption)) G) (List.Mem.head _) ?_
    iterate 11 (first | walk1 | (dsimp only; walk1))
    try dsimp only
    refine PyProof.Rows.add_str (hsz := ?hsz) (fun t5 k5 => ?_)
    case hsz => rw [sizeLine_eq]; simp only [Str.length_append, ls]; omega
    have := h t5 { s with heap := _, toks := k5 } ⟨_, _, rfl, fun b o e => Fr.keep (by assumption) b o e⟩
    unfold spelled lastOf at this
    rw [if_neg hne] at this
    exact this
  · have he : tailOf x = Str.empty := by
      have hn : (tailOf x != Str.ofString "") = false := by assumption
      have hn' : tailOf x = Str.ofString "" := by simpa using hn
      exact hn'.trans e0
    dsimp only
    have hh := fun t' k => h t' { s with heap := _, toks := k } ⟨_, _, rfl, fun b o e => Fr.keep (by assumption) b o e⟩
    unfold spelled lastOf at hh
    rw [if_pos he, ← e0] at hh
    exact hh _ _
end
end Mine
end

section
open PySem PySem.W PyProof.Rows PySem.SeqAt PySem.Calls
set_option Elab.async false
set_option maxRecDepth 100000
namespace Mine

section
variable {M : Model} {A : Around} {R : GenEnd} {Y : Protocol} {n : Nat} {s₀ : Shared} {c : Code} {fs : List Frame} {s : Shared} {env : Env}
  {K : Flow → Sem Fin} {H : Value → Sem Fin} {gd : Bool → Bool} {lv : List Value → List Value}

theorem seg_If {test : Expr} {body orelse : List Stmt} {pos : Pos}
    (h : wpAny M (A.over c fs) (isTrue test env (eval test env)) (fun b s' => if b = true then Seg M A R Y n s₀ c ((execs body env).wrap K H gd lv) fs s' else Seg M A R Y n s₀ c ((execs orelse env).wrap K H gd lv) fs s')
      (fun x s' => Seg M A R Y n s₀ c (H x) fs s') s) : Seg M A R Y n s₀ c ((exec (.If test body orelse pos) env).wrap K H gd lv) fs s := by
  rw [exec_If]
  refine seg_at ?_
  show Seg M A R Y n s₀ c (Sem.wrap K H gd lv (isTrue test env (eval test env) >>= _)) fs s
  rw [Sem.bind_eq_wrap', Sem.wrap_wrap]
  refine seg_wrap (wpAny_mono h (fun b s' h' => ?_) fun _ _ x => x)
  cases b with
  | true => exact h'
  | false => exact h'

/-- a statement that does not yield -/
theorem seg_stmt {st : Stmt} (h : wpAny M (A.over c fs) (exec st env) (fun f s' => Seg M A R Y n s₀ c (K f) fs s') (fun x s' => Seg M A R Y n s₀ c (H x) fs s') s) :
    Seg M A R Y n s₀ c ((exec st env).wrap K H gd lv) fs s := seg_wrap h

/-- what stands behind a for within a generator -/
def afterFor (env : Env) (K : Flow → Sem Fin) (H : Value → Sem Fin) (gd : Bool → Bool) (lv : List Value → List Value) (r : Result) : Sem Fin :=
  ((match r with | .ok f => (.pure f : Sem Flow) | .error e => .raise e).onRaise fun (x : Value) => do
        if (← field x 1) == Value.none then unsupported "frame.own-activation:exception-without-traceback"
        setFlight x env.frame).wrap K H gd lv

theorem seg_For {target iter : Expr} {body orelse : List Stmt} {pos : Pos}
    (h : wpAny M (A.over c fs) (eval iter env) (fun x s₁ => wpAny M (A.over c fs) (pyIter x) (fun it s₂ =>
      ∀ p, Seg M A R Y n s₀ (.forLoop target it body orelse env) (M.den (.forLoop target it body orelse env)) (.ret (afterFor env K H gd lv) none (gd false) (lv []) c p [] :: fs) s₂)
        (fun x s' => Seg M A R Y n s₀ c (H x) fs s') s₁) (fun x s' => Seg M A R Y n s₀ c (H x) fs s') s)
    (hs : ∀ x, foldedSetIterable iter env x = pure x := by intro _; rfl) :
    Seg M A R Y n s₀ c ((exec (.For target iter body orelse pos) env).wrap K H gd lv) fs s := by
  rw [exec_For]
  refine seg_at ?_
  show Seg M A R Y n s₀ c (Sem.wrap K H gd lv (eval iter env >>= _)) fs s
  rw [Sem.bind_eq_wrap', Sem.wrap_wrap]
  refine seg_wrap (wpAny_mono h (fun x s₁ h₁ => ?_) fun _ _ x => x)
  rw [hs]
  refine seg_at ?_
  show Seg M A R Y n s₀ c (Sem.wrap _ _ _ _ (holding [x] (pyIter x) >>= _)) fs s₁
  rw [Sem.bind_eq_wrap', Sem.wrap_wrap]
  refine seg_wrap (wpAny_holding (wpAny_mono h₁ (fun it s₂ h₂ => ?_) fun _ _ x => x))
  exact seg_call h₂
end

section
variable {prog : Program} {w : World} {A : Around} {R : GenEnd} {Y : Protocol} {n : Nat} {s₀ : Shared} {fs : List Frame} {s : Shared} {env : Env}

def turnK (target : Expr) (it : Value) (body orelse : List Stmt) (env : Env) : Flow → Sem Fin := fun f => match f with
  | .next | .cont => .pure (.again (.forLoop target it body orelse env))
  | .brk => .pure (.done .next)
  | .ret v => .pure (.done (.ret v))
def turnH (env : Env) : Value → Sem Fin := fun e => (do noteFrame e env; theTreesLotGoes e : Sem Unit).wrap (fun _ => .raise e) .raise id id

theorem seg_forLoop {target : Expr} {it : Value} {body orelse : List Stmt}
    (h : ∀ E' : Value → Shared → Prop, wpAny (model prog w) (A.over (.forLoop target it body orelse env) fs) (pyNext it) (fun r s₁ => match r with
      | none => Seg (model prog w) A R Y n s₀ (.forLoop target it body orelse env) (.pure (.again (.block orelse env))) fs s₁
      | some v => wpAny (model prog w) (A.over (.forLoop target it body orelse env) fs) (letOwnedTupleGo target it v) (fun _ s₂ => wpAny (model prog w) (A.over (.forLoop target it body orelse env) fs) (assign target env v) (fun _ s₃ =>
          Seg (model prog w) A R Y n s₀ (.forLoop target it body orelse env) ((execs body env).wrap (turnK target it body orelse env) (turnH env) id id) fs s₃) E' s₂) E' s₁) E' s) :
    Seg (model prog w) A R Y n s₀ (.forLoop target it body orelse env) ((model prog w).den (.forLoop target it body orelse env)) fs s := by
  show Seg _ A R Y n s₀ _ ((forTurn target it body orelse env).onRaise (fun x => do noteFrame x env; theTreesLotGoes x)) fs s
  unfold forTurn
  rw [Sem.onRaise_eq_wrap]
  refine seg_at ?_
  show Seg _ A R Y n s₀ _ (Sem.wrap _ _ _ _ ((pyNext it).onRaise _ >>= _)) fs s
  rw [Sem.bind_eq_wrap', Sem.wrap_wrap]
  refine seg_wrap (wpAny_onRaise (wpAny_mono (h _) (fun r s₁ h₁ => ?_) fun x s' hx => wpAny_standAt hx))
  cases r with
  | none => exact h₁
  | some v =>
    show Seg _ A R Y n s₀ _ (Sem.wrap _ _ _ _ (letOwnedTupleGo target it v >>= _)) fs s₁
    rw [Sem.bind_eq_wrap', Sem.wrap_wrap]
    refine seg_wrap (wpAny_mono h₁ (fun _ s₂ h₂ => ?_) fun _ _ x => x)
    rw [Sem.bind_eq_wrap', Sem.wrap_wrap]
    refine seg_wrap (wpAny_mono h₂ (fun _ s₃ h₃ => ?_) fun _ _ x => x)
    rw [Sem.bind_eq_wrap', Sem.wrap_wrap]
    rw [Sem.wrap_congr (execs body env) _ _ (K' := turnK target it body orelse env) (H' := turnH env) (fun f => by cases f <;> rfl)
        (fun e => by first | exact Sem.bind_eq_wrap _ _ | (show (do noteFrame e env; theTreesLotGoes e : Sem Unit).bind (fun _ => .raise e) = _; rw [Sem.bind_eq_wrap]; rfl))]
    exact h₃
end
end Mine
end

section
open PySem PySem.W PyProof.Rows PySem.SeqAt PySem.Calls
set_option Elab.async false
set_option maxRecDepth 100000
namespace Mine

def sForT (l : List Stmt) (i : Nat) : Expr := match l[i]? with | some (.For t _ _ _ _) => t | _ => .Name Str.empty default
def sForI (l : List Stmt) (i : Nat) : Expr := match l[i]? with | some (.For _ t _ _ _) => t | _ => .Name Str.empty default
def sForB (l : List Stmt) (i : Nat) : List Stmt := match l[i]? with | some (.For _ _ b _ _) => b | _ => []

def itP (L e it : Addr) (x : Str) : Protocol := fun n s₀ v s' kap => ∃ T i tk u c, i + (n + 1) = x.cps.size ∧ x.cps[i]? = some c ∧ v = .ref T ∧ s'.heap.IsTuple T #[.int i tk, .str ⟨#[c]⟩ u] ∧
  GenSince L [e, it] s₀ s' ∧ ∀ s'' : Shared, (∀ b ∈ [L, e, it], ∀ o, s'.heap.get? b = some o → s''.heap.get? b = some o) → kap (.send .none) s''
def itR (L e it : Addr) : GenEnd := fun n s₀ r s₁ => r = .ok (.ret .none) ∧ (n = 0 ∧ GenSince L [e, it] s₀ s₁)

section
variable {prog : Program} {w : World} {A : Around}

set_option maxHeartbeats 2000000 in
theorem seg_iter (hh : A.handled = none) {L e it a : Addr} {cd : Value} {x : Str} {t : Tok} (hLe : L ≠ e) (hLi : L ≠ it) (hei : e ≠ it) (hx : ∀ c ∈ x.cps, c ≠ 92)
    {fs : List Frame} (hfs : splitAtGen fs = none) (hfg : fs.any Frame.guarded = false) (hmk : (marksOver fs (A.handled, A.handled)).1 = none)
    (hend : ∀ s₀ s m, s.heap.Ns L m → m (Str.ofString "escape") = some (.bool false) → GenSince L [e, it] s₀ s →
      Seg (model prog w) A (itR L e it) (itP L e it x) 0 s₀ (.block [] (envOf (fN 2) (fS 2) L a cd)) ((model prog w).den (.block [] (envOf (fN 2) (fS 2) L a cd))) fs s) :
    ∀ (k i : Nat) (s₀ s : Shared) (m : Str → Option Value), x.cps.size - i = k → i ≤ x.cps.size → (∃ old, IsEnum s.heap e it i old) → s.heap.IsStrIter it "str_ascii_iterator" x t i →
      s.heap.Ns L m → m (Str.ofString "escape") = some (.bool false) → GenSince L [e, it] s₀ s →
      Seg (model prog w) A (itR L e it) (itP L e it x) (x.cps.size - i) s₀ (.forLoop (sForT (fB 2) 2) (.ref e) (sForB (fB 2) 2) [] (envOf (fN 2) (fS 2) L a cd))
        ((model prog w).den (.forLoop (sForT (fB 2) 2) (.ref e) (sForB (fB 2) 2) [] (envOf (fN 2) (fS 2) L a cd))) fs s := by
  have hh' : (A.over (.forLoop (sForT (fB 2) 2) (.ref e) (sForB (fB 2) 2) [] (envOf (fN 2) (fS 2) L a cd)) fs).handled = none := hmk
  have W : ∀ A' : Around, A'.handled = none → WalksT prog w A' e (e :: [it]) [e, it] x.cps.size _ _ _ := fun A' h' => WalksT.enumerateD (Draws.strAscii (prog := prog) (w := w) (A := A'.in1) h' it x t) e hei (by simp [hei]) (by simp)
  intro k
  induction k with
  | zero =>
    intro i s₀ s m hk hi he hit hn hesc hsince
    have hin : i = x.cps.size := by omega
    subst hin
    refine seg_forLoop fun E' => (W _ hh').done s _ _ ⟨he, hit⟩ fun h' tk hk' => ?_
    show Seg _ _ _ _ _ _ _ _ _ _
    rw [Nat.sub_self]
    exact seg_again rfl (hend _ _ m (hn.at' fun o e => hk' _ o (by simp [hLe, hLi]) e) hesc (hsince.step fun b o _ hw e => hk' b o hw e))
  | succ k ih =>
    intro i s₀ s m hk hi he hit hn hesc hsince
    have hlt : i < x.cps.size := by omega
    refine seg_forLoop fun E' => (W _ hh').item i s _ _ hlt ⟨he, hit⟩ fun T vals h₁ tk₁ hPv hsz₁ hT₁ hmid hk₁ => ?_
    obtain ⟨tv, xv, ⟨c, u, hc, rfl⟩, rfl⟩ := hPv
    show wpAny _ _ _ _ _ _
    refine (W _ hh').go _ _ _ i T _ _ _ hmid fun h₁' hst₁ hk₁' => ?_
    have hT₁' : h₁'.IsTuple T #[.int i tv, .str ⟨#[c]⟩ u] := let ⟨o, e, r⟩ := hT₁; ⟨o, hk₁' _ o ((W _ hh').apart i T _ hmid) e, r⟩
    refine wpAny_assign_Tuple hh' hT₁' rfl rfl fun h₁'' hx₁ => ?_
    replace hx₁ : Heap.ExtBut h₁'.objs.size h₁' h₁'' := hx₁
    have old₁ : ∀ b o, h₁'.get? b = some o → h₁''.get? b = some o := fun b o e => hx₁ b o (Nat.ne_of_lt (Heap.lt_size e)) e
    show wpAny _ _ (do holding [_] (assign (.Name (Str.ofString "pos") _) _ _); do holding [] (assign (.Name (Str.ofString "ch") _) _ _); pure ()) _ _ _
    have hw : L ∉ [e, it] := by simp [hLe, hLi]
    refine wpAny_bind (wpAny_holding (wpAny_assign_Name (wpAny_storeName_local (env := envOf (fN 2) (fS 2) L a cd) rfl (hn.at' fun o e => old₁ _ o (hk₁' _ o hw (hk₁ _ o hw e))) (fun h₂a hn₂a hs₂a => ?_) rfl)))
    replace hs₂a : Heap.SameBut L h₁'' h₂a := hs₂a
    refine wpAny_bind (wpAny_holding (wpAny_assign_Name (wpAny_storeName_local (env := envOf (fN 2) (fS 2) L a cd) rfl hn₂a (fun h₂ hn₂ hs₂ => wpAny_pure ?_) rfl)))
    replace hs₂ : Heap.SameBut L h₂a h₂ := hs₂
    have up₂ : ∀ b o, b ≠ L → b ∉ [e, it] → s.heap.get? b = some o → h₂.get? b = some o := fun b o hbC hbw e => hs₂.extBut b o hbC (hs₂a.extBut b o hbC (old₁ b o (hk₁' b o hbw (hk₁ b o hbw e))))
    have hst₂ := (W _ hh').frame (i + 1) h₁' h₂ hst₁ fun b hb o e => by
      have hbL : b ≠ L := by rintro rfl; simp at hb; rcases hb with rfl | rfl; exact hLe rfl; exact hLi rfl
      exact hs₂.extBut b o hbL (hs₂a.extBut b o hbL (old₁ b o e))
    have hn92 : c ≠ 92 := hx c (Array.mem_of_getElem? hc)
    have hesc₂ : (fun y => if y = Str.ofString "ch" then some (Value.str ⟨#[c]⟩ u) else if y = Str.ofString "pos" then some (.int i tv) else m y) (Str.ofString "escape") = some (.bool false) := hesc
    refine seg_execs_cons (seg_If (wpAny_isTrue_value (nmL hn₂ hesc₂ (wpAny_truthy_bool ?_))))
    rw [if_neg Bool.false_ne_true]
    refine seg_execs_cons (seg_If (wpAny_isTrue_Compare1 (nmL hn₂ (v := .str ⟨#[c]⟩ u) rfl (wpAny_Constant_str (P.eq_str (wpAny_truthy_bool ?_))))))
    rw [show ((#[c] : Array Nat).toList == (Str.ofString "\\").cps.toList) = false from by
      have : (Str.ofString "\\").cps.toList = [92] := rfl
      rw [this]; simp [hn92]]
    rw [if_neg Bool.false_ne_true]
    have hsz : x.cps.size - i = (x.cps.size - (i + 1)) + 1 := by omega
    rw [hsz]
    refine seg_execs_cons (seg_Expr_Yield hfs rfl hfg ?_)
    refine wpAny_Tuple (wpAny_items_cons (nmL hn₂ (v := .int i tv) rfl (wpAny_items_cons (nmL hn₂ (v := .str ⟨#[c]⟩ u) rfl (wpAny_items_nil ⟨by size_fits, ?_⟩)))))
    intro kap hkap
    refine ⟨_, i, tv, u, c, by omega, hc, rfl, ⟨_, Heap.get?_push_size _ rfl, rfl, _, rfl⟩, hsince.step fun b o hbC hbw e => Heap.get?_push_of_some _ (up₂ b o hbC hbw e), fun s'' hal => hkap .none s'' ?_⟩
    show Seg _ _ _ _ _ _ _ _ _ _
    have hal' : ∀ b ∈ [L, e, it], ∀ o, h₂.get? b = some o → s''.heap.get? b = some o := fun b hb o e => hal b hb o (Heap.get?_push_of_some _ e)
    obtain ⟨he₂, hit₂⟩ := (W _ hh').frame (i + 1) h₂ s''.heap hst₂ fun b hb o e => hal' b (List.mem_cons_of_mem _ hb) o e
    exact seg_again rfl (ih (i + 1) s'' s'' _ (by omega) hlt he₂ hit₂ (hn₂.at' fun o e => hal' _ (List.mem_cons_self ..) o e) hesc₂ (GenSince.refl _ _ _))
end
end Mine
end

section
open PySem PySem.W PyProof.Rows PySem.SeqAt PySem.Calls
set_option Elab.async false
set_option maxRecDepth 100000
namespace Mine

theorem bt_str : (Str.ofString "str", Value.type "str") ∈ builtTab := by simp [builtTab]
theorem bt_int : (Str.ofString "int", Value.type "int") ∈ builtTab := by simp [builtTab]
theorem bt_VE : (Str.ofString "ValueError", Value.type "ValueError") ∈ builtTab := by simp [builtTab]
theorem bt_enum : (Str.ofString "enumerate", Value.type "enumerate") ∈ builtTab := by simp [builtTab]
theorem bt_sum : (Str.ofString "sum", Value.builtin "sum") ∈ builtTab := by simp [builtTab]
theorem bt_sorted : (Str.ofString "sorted", Value.builtin "sorted") ∈ builtTab := by simp [builtTab]
theorem bt_range : (Str.ofString "range", Value.type "range") ∈ builtTab := by simp [builtTab]
theorem bt_type : (Str.ofString "type", Value.type "type") ∈ builtTab := by simp [builtTab]
theorem bt_bool : (Str.ofString "bool", Value.type "bool") ∈ builtTab := by simp [builtTab]
theorem gt_iter : (Str.ofString "_iter_escaped_chars", Value.ref 38) ∈ globTab := by simp [globTab]
theorem gt_strip : (Str.ofString "_strip_quoted_realnames", Value.ref 45) ∈ globTab := by simp [globTab]
theorem gt_check : (Str.ofString "_check_parenthesis", Value.ref 52) ∈ globTab := by simp [globTab]
theorem gt_re : (Str.ofString "_twin_re_1", Value.ref 57) ∈ globTab := by simp [globTab]
theorem gt_stages : (Str.ofString "_ver_stages", Value.ref 58) ∈ globTab := by simp [globTab]
theorem gt_comp : (Str.ofString "_comparable_version", Value.ref 65) ∈ globTab := by simp [globTab]
theorem gt_spelled : (Str.ofString "_law_spelled", Value.ref 72) ∈ globTab := by simp [globTab]
theorem gt_worth : (Str.ofString "_law_worth", Value.ref 79) ∈ globTab := by simp [globTab]

section
variable {prog : Program} {w : World} {A : Around} {E : Value → Shared → Prop} {s : Shared} {env : Env}

set_option maxHeartbeats 2000000 in
theorem seg_start (hh : A.handled = none) {L a : Addr} {cd : Value} {x : Str} {t : Tok} {m : Str → Option Value} (G : Gl s.heap) (hL : 85 ≤ L) (hn : s.heap.Ns L m) (hm : m (Str.ofString "addr") = some (.str x t))
    (hasc : strIterType x = "str_ascii_iterator") (hx : ∀ c ∈ x.cps, c ≠ 92) :
    Seg (model prog w) A (itR L (s.heap.objs.size + 1) s.heap.objs.size) (itP L (s.heap.objs.size + 1) s.heap.objs.size x) x.cps.size s (.func (fB 2) (envOf (fN 2) (fS 2) L a cd))
      ((model prog w).den (.func (fB 2) (envOf (fN 2) (fS 2) L a cd))) [] s := by
  have hLlt : L < s.heap.objs.size := hn.lt
  refine seg_func ?_
  refine seg_execs_cons (seg_stmt (wpAny_Assign_Name (wpAny_Constant_int ?_)))
  refine wpAny_storeName_local (env := envOf (fN 2) (fS 2) L a cd) rfl hn (fun h₁ hn₁ hs₁ => ?_) rfl
  replace hs₁ : Heap.SameBut L s.heap h₁ := hs₁
  refine seg_execs_cons (seg_stmt (wpAny_Assign_Name (wpAny_Constant_bool ?_)))
  refine wpAny_storeName_local (env := envOf (fN 2) (fS 2) L a cd) rfl hn₁ (fun h₂ hn₂ hs₂ => ?_) rfl
  replace hs₂ : Heap.SameBut L h₁ h₂ := hs₂
  have k₂ : ∀ b o, b ≠ L → s.heap.get? b = some o → h₂.get? b = some o := fun b o hb e => hs₂.extBut b o hb (hs₁.extBut b o hb e)
  have z₂ : h₂.objs.size = s.heap.objs.size := by rw [hs₂.1, hs₁.1]
  have G₂ : Gl h₂ := G.kp (n₁ := 0) (P := fun b => b < 85) (KpOn.of_keep fun b o (hb : @LT.lt Nat _ b 85) e => k₂ b o (by intro q; subst q; exact absurd hb (by show ¬ @LT.lt Nat _ _ _; have : @LE.le Nat _ 85 b := hL; omega)) e) fun _ h => h
  refine seg_execs_cons (seg_For ?_)
  refine Call_ (nmB G₂ bt_enum ?_)
  refine PyProof.Rows.callWith_type1 (args_cons (nmL hn₂ (v := .str x t) hm (args_nil ?_)))
  refine call_enumerate_str fun h₃ he₃ hit₃ z₃ k₃ => ?_
  replace z₃ : h₃.objs.size = h₂.objs.size + 2 := z₃
  replace k₃ : ∀ b o, h₂.get? b = some o → h₃.get? b = some o := k₃
  replace he₃ : IsEnum h₃ (h₂.objs.size + 1) h₂.objs.size 0 .none := he₃
  replace hit₃ : h₃.IsStrIter h₂.objs.size (strIterType x) x t 0 := hit₃
  rw [z₂] at he₃ hit₃
  rw [hasc] at hit₃
  show wpAny _ _ (pyIter (.ref (h₂.objs.size + 1))) _ _ _
  rw [z₂]
  refine wpAny_pyIter_enum he₃ fun p => ?_
  refine seg_iter hh (L := L) (e := s.heap.objs.size + 1) (it := s.heap.objs.size) (Nat.ne_of_lt (Nat.lt_succ_of_lt hLlt)) (Nat.ne_of_lt hLlt) (Nat.succ_ne_self _) hx ?h1 ?h2 ?h3 ?_ _ 0 s _ _ rfl (Nat.zero_le _) ⟨_, he₃⟩ hit₃ (hn₂.keeps k₃) rfl
    ⟨h₃, _, rfl, fun b o hb _ e => k₃ b o (k₂ b o hb e)⟩
  case h1 => rfl
  case h2 => rfl
  case h3 => exact hh
  intro s₀ s' m' hn' hm' hsince
  refine seg_leaf (.ok .next) ?_
  show Seg _ _ _ _ _ _ _ (Sem.wrap _ _ _ _ (execs _ _)) _ _
  refine seg_execs_cons (seg_If (wpAny_isTrue_value (nmL hn' hm' (wpAny_truthy_bool ?_))))
  rw [if_neg Bool.false_ne_true]
  refine seg_execs_nil (seg_execs_nil ?_)
  exact seg_end (.ok (.ret .none)) ⟨rfl, rfl, hsince⟩
end
end Mine
end

section
open PySem PySem.W PyProof.Rows PySem.SeqAt PySem.Calls
set_option Elab.async false
set_option maxRecDepth 100000
namespace Mine

section
variable {prog : Program} {w : World} {A : Around} {E : Value → Shared → Prop} {s : Shared} {env : Env}

theorem gen_next {a : Addr} {g n : Nat} {gs : GenState} {P : Nat → Shared → Shared → Prop} {Y : Protocol} {Q : Option Value → Shared → Prop} (hh : A.handled = none)
    (hl : s.heap.NoLimit) (hroom : A.depth < recursionLimit) (hg : s.heap.IsGen a g) (hgs : s.gens[g]? = some gs)
    (hgo : gs.Goes (model prog w) A.in1 (fun n s₀ r s₁ => r = .ok (.ret .none) ∧ P n s₀ s₁) Y n (.send .none) (s.setGen g .running))
    (hY : ∀ v s₁ gs', gs'.bare = true → Y (n - 1) (s.setGen g .running) v s₁ (fun r' s'' => match n with
        | 0 => False
        | m + 1 => gs'.Goes (model prog w) A.in1 (fun n s₀ r s₁ => r = .ok (.ret .none) ∧ P n s₀ s₁) Y m r' s'') → Q (some v) (s₁.setGen g gs'))
    (hP : ∀ s₁, P n (s.setGen g .running) s₁ → ∀ h', (∀ b o, s₁.heap.get? b = some o → h'.get? b = some o) → Q none { s₁.setGen g .finished with heap := h' }) :
    wpAny (model prog w) A (pyNext (.ref a)) Q E s := by
  unfold pyNext
  refine wpAny_bind (wpAny_attempt (wpAny_callSpecial?_slot (name := Str.ofString "__next__") hg.typeIs slot_gen_next
    (wpAny_call_entry slot_gen_next hg.typeIs entry_gen_next ?_ (args_gen_next _))))
  show wpAny _ _ (Builtin.Generator.genWake (.ref a) (.send .none)) _ _ s
  unfold Builtin.Generator.genWake
  refine wpAny_bind (wpAny_holding (wpAny_genNumber hg (wpAny_bind (wpAny_genState hgs ?_))))
  cases gs with
  | running => exact hgo.elim
  | finished => exact hgo.elim
  | _ =>
    refine wpAny_bind (wpAny_roomToWake hl hroom ?_)
    show wpAny _ _ (.resume g (.send .none) [] _) _ _ s
    refine wpAny_resumeQ hgs hgo (fun x s₁ hx => ?_) (fun v s₁ gs' hb hv => ?_)
    · obtain ⟨rfl, hp⟩ := hx
      show wpAny _ _ (newExc (.type "StopIteration") [] >>= _) _ _ _
      refine wpAny_bind ?_
      simp only [newExc, newTuple]
      refine wpAny_bind (wpAny_newObj_type ?_ (by size_fits))
      refine wpAny_bind (m := firstArgMember _ _) (wpAny_of_eq (a := Value.none) (by first | rfl | (simp only [firstArgMember]; rfl)) ?_)
      refine wpAny_newObj_type ?_ (by size_fits)
      simp only [raiseNew]
      refine wpAny_bind (wpAny_bind (wpAny_handled ?_))
      rw [show A.in1.handled = none from hh]
      refine wpAny_throw ?_
      refine wpAny_bind (wpAny_isInstance (T := "StopIteration") (b := true) ⟨_, Heap.get?_push_size _ rfl, rfl⟩ isSubtype_stop ?_)
      exact wpAny_pure (hP s₁ hp _ fun b o hb => Heap.get?_push_of_some _ (Heap.get?_push_of_some _ hb))
    · exact wpAny_pure ⟨v, rfl, wpAny_pure (hY v s₁ gs' hb hv)⟩

/-- the generator of a text stands before its i-th yield -/
structure GnAt (prog : Program) (w : World) (A : Around) (x : Str) (Lg ga : Addr) (G0 : Array GenState) (i : Nat) (s : Shared) : Prop where
  gl : Gl s.heap
  gen : s.heap.IsGen ga G0.size
  go : ∃ gs, s.gens = G0.push gs ∧ gs.bare = true ∧
    ((i = 0 ∧ ∃ a cd m t, gs = .fresh (.func (fB 2) (envOf (fN 2) (fS 2) Lg a cd)) ∧ s.heap.Ns Lg m ∧ m (Str.ofString "addr") = some (.str x t)) ∨
     ∃ e it, @LT.lt Nat _ ga e ∧ @LT.lt Nat _ ga it ∧ ∀ s'' : Shared, (∀ b ∈ [Lg, e, it], ∀ o, s.heap.get? b = some o → s''.heap.get? b = some o) →
      gs.Goes (model prog w) A.in1 (itR Lg e it) (itP Lg e it x) (x.cps.size - i) (.send .none) s'')

def SameOs (s s' : Shared) : Prop := s'.os = s.os

theorem setGen_push {s : Shared} {G0 : Array GenState} {a b : GenState} (h : s.gens = G0.push a) : (s.setGen G0.size b).gens = G0.push b := by
  have : (s.setGen G0.size b).gens = s.gens.setIfInBounds G0.size b := rfl
  rw [this, h]
  apply Array.ext_getElem?
  intro i
  rw [Array.getElem?_setIfInBounds, Array.getElem?_push, Array.getElem?_push]
  by_cases hi : G0.size = i
  · subst hi; simp
  · rw [if_neg hi, if_neg (fun q => hi q.symm), if_neg (fun q => hi q.symm)]

theorem gn_go (hh : A.handled = none) {x : Str} {Lg ga : Addr} {G0 : Array GenState} {i : Nat} (hasc : strIterType x = "str_ascii_iterator") (hx : ∀ c ∈ x.cps, c ≠ 92) (hLg : 85 ≤ Lg) (hga : @LT.lt Nat _ Lg ga)
    (I : GnAt prog w A x Lg ga G0 i s) : ∃ gs e it, s.gens = G0.push gs ∧ @LT.lt Nat _ ga e ∧ @LT.lt Nat _ ga it ∧
      gs.Goes (model prog w) A.in1 (itR Lg e it) (itP Lg e it x) (x.cps.size - i) (.send .none) (s.setGen G0.size .running) := by
  obtain ⟨G, hg, gs, hgs, hb, (⟨rfl, a, cd, m, t, rfl, hn, hm⟩ | ⟨e, it, h1, h2, hgo⟩)⟩ := I
  · have lt : @LT.lt Nat _ ga s.heap.objs.size := by obtain ⟨o, _, _, ho, _⟩ := hg; exact Heap.lt_size ho
    refine ⟨_, s.heap.objs.size + 1, s.heap.objs.size, hgs, Nat.lt_succ_of_lt lt, lt, rfl, ?_⟩
    exact seg_start (A := A.in1) (s := s.setGen G0.size .running) hh G hLg hn hm hasc hx
  · exact ⟨gs, e, it, hgs, h1, h2, hgo _ fun _ _ _ e => e⟩

theorem gn_item (hh : A.handled = none) (hroom : A.depth < recursionLimit) {x : Str} {Lg ga : Addr} {G0 : Array GenState} {i : Nat} (hasc : strIterType x = "str_ascii_iterator") (hx : ∀ c ∈ x.cps, c ≠ 92) (hLg : 85 ≤ Lg)
    (hga : @LT.lt Nat _ Lg ga) (I : GnAt prog w A x Lg ga G0 i s) (hi : i < x.cps.size) {Q : Option Value → Shared → Prop}
    (h : ∀ T tk u c s₁, x.cps[i]? = some c → s₁.heap.IsTuple T #[.int i tk, .str ⟨#[c]⟩ u] → GnAt prog w A x Lg ga G0 (i + 1) s₁ → s₁.os = s.os → (∀ (b : Nat) o, @Ne Nat b Lg → b ≤ ga → s.heap.get? b = some o → s₁.heap.get? b = some o) →
      Q (some (.ref T)) s₁) : wpAny (model prog w) A (pyNext (.ref ga)) Q E s := by
  obtain ⟨gs, e, it, hgs, h1, h2, hgo⟩ := gn_go hh hasc hx hLg hga I
  refine gen_next (P := fun n s₀ s₁ => n = 0 ∧ GenSince Lg [e, it] s₀ s₁) hh I.gl.lim hroom I.gen (by rw [hgs]; simp) hgo (fun v s₁ gs' hb hY => ?_) (fun s₁ hp h' hk => ?_)
  · obtain ⟨T, j, tk, u, c, hj, hc, rfl, hT, hs, hkap⟩ := hY
    have hji : j = i := by omega
    subst hji
    obtain ⟨h₁, t₁, rfl, k₁⟩ := hs
    have hkp : ∀ (b : Nat) o, @Ne Nat b Lg → b ≤ ga → s.heap.get? b = some o → h₁.get? b = some o := fun b o hb hbg e' => k₁ b o hb (by simp; constructor <;> intro q <;> (have q' : @Eq Nat b _ := q; omega)) e'
    refine h T tk u c _ hc hT ⟨?_, ?_, gs', ?_, hb, .inr ⟨e, it, h1, h2, fun s'' hal => ?_⟩⟩ rfl hkp
    · exact I.gl.kp (n₁ := 0) (P := fun b => @LT.lt Nat _ b 85) (KpOn.of_keep fun b o (hb : @LT.lt Nat _ b 85) e => hkp b o (by have : @LE.le Nat _ 85 Lg := hLg; omega) (by have : @LE.le Nat _ 85 Lg := hLg; omega) e) fun _ h => h
    · obtain ⟨o, nm, qn, ho, r⟩ := I.gen
      exact ⟨o, nm, qn, hkp ga o (by omega) (Nat.le_refl _) ho, r⟩
    · exact setGen_push (setGen_push hgs)
    · have : x.cps.size - j = (x.cps.size - (j + 1)) + 1 := by omega
      rw [this] at hkap
      exact hkap s'' hal
  · exact absurd hp.1 (by omega)

theorem gn_end (hh : A.handled = none) (hroom : A.depth < recursionLimit) {x : Str} {Lg ga : Addr} {G0 : Array GenState} {i : Nat} (hasc : strIterType x = "str_ascii_iterator") (hx : ∀ c ∈ x.cps, c ≠ 92) (hLg : 85 ≤ Lg)
    (hga : @LT.lt Nat _ Lg ga) (I : GnAt prog w A x Lg ga G0 i s) (hi : i = x.cps.size) {Q : Option Value → Shared → Prop}
    (h : ∀ s₁ : Shared, (∃ gs, s₁.gens = G0.push gs ∧ gs.bare = true) → s₁.os = s.os → (∀ (b : Nat) o, @Ne Nat b Lg → b ≤ ga → s.heap.get? b = some o → s₁.heap.get? b = some o) →
      Q none s₁) : wpAny (model prog w) A (pyNext (.ref ga)) Q E s := by
  obtain ⟨gs, e, it, hgs, h1, h2, hgo⟩ := gn_go hh hasc hx hLg hga I
  refine gen_next (P := fun n s₀ s₁ => n = 0 ∧ GenSince Lg [e, it] s₀ s₁) hh I.gl.lim hroom I.gen (by rw [hgs]; simp) hgo (fun v s₁ gs' hb hY => ?_) (fun s₁ hp h' hk => ?_)
  · obtain ⟨T, j, tk, u, c, hj, hc, rfl, hT, hs, hkap⟩ := hY
    subst hi
    have := hkap s₁ fun _ _ _ e => e
    rw [Nat.sub_self] at this
    exact this.elim
  · obtain ⟨_, h₁, t₁, rfl, k₁⟩ := hp
    exact h _ ⟨.finished, setGen_push (setGen_push hgs), rfl⟩ rfl fun b o hb hbg e' => hk b o (k₁ b o hb (by simp; constructor <;> intro q <;> (have q' : @Eq Nat b _ := q; omega)) e')
end
end Mine
end

section
open PySem PySem.W PyProof.Rows PySem.SeqAt PySem.Calls
set_option Elab.async false
set_option maxRecDepth 100000
namespace Mine

section
variable {prog : Program} {w : World} {A : Around} {E : Value → Shared → Prop} {s : Shared} {env : Env}

theorem call_fn1 {i : Nat} {a : Addr} {e : Expr} {pos : Pos} {Q : Value → Shared → Prop} (hf : FnAt s.heap i a)
    (h : wpAny (model prog w) A (eval e env) (fun v s₁ => s₁.heap.get? a = s.heap.get? a ∧ wpAny (model prog w) A (call (.ref a) [v]) Q E s₁) E s)
    (he : starEach [e] env = [(false, eval e env)] := by rfl) :
    wpAny (model prog w) A (callWith pos (.ref a) [] (backTo pos (starEach [e] env)) []) Q E s := by
  obtain ⟨o, pm, k, ho, _, hd, _⟩ := hf
  refine callWith_def (o := o) hd ?_ he
  exact args_cons (wpAny_mono h (fun v s₁ h₁ => args_nil ⟨h₁.1.trans ho, h₁.2⟩) fun _ _ x => x) he

theorem strip_call {x : Str} {t : Tok} {Q : Value → Shared → Prop} (G : Gl s.heap) (hroom : A.depth < recursionLimit) (hx : ∀ c ∈ x.cps, c ≠ 34)
    (h : ∀ s', Keeps s s' → Q (.str x t) s') : wpAny (model prog w) A (call (.ref 45) [.str x t]) Q E s := by
  obtain ⟨o, pm, c, ho, -, hd, hcd, -⟩ := G.f3
  refine wpAny_call (call_plain_ret (binds := [(Str.ofString "addr", Value.str x t)]) hroom ho hd G.lim hcd rfl (by intro y hy; simp at hy; subst hy; rfl) (fun h₁ F => ?_) rfl rfl rfl (by decide +kernel))
  refine wpAny_execs_cons (wpAny_If (wpAny_isTrue_Compare1 (wpAny_Constant_str (nmL F.ns (v := .str x t) rfl (P.notIn_str (wpAny_truthy_bool ?_))))))
  rw [show Str.ofString "\"" = ⟨#[34]⟩ from by decide +kernel, StrLaws.found_one]
  have hn : ¬ (34 ∈ x.cps.toList) := fun hm => hx 34 (by simpa using hm) rfl
  rw [decide_eq_false hn]
  show wpAny _ _ (execs _ _) _ _ _
  refine wpAny_execs_cons (wpAny_Return_some (nmL F.ns (v := .str x t) rfl ?_))
  exact h _ ⟨_, _, rfl, F.keep⟩

theorem iter_call {x : Str} {t : Tok} {Q : Value → Shared → Prop} {A' : Around} (G : Gl s.heap) (hroom : A.depth < recursionLimit)
    (h : ∀ s', GnAt prog w A' x s.heap.objs.size (s.heap.objs.size + 1) s.gens 0 s' → s'.os = s.os → (∀ b o, s.heap.get? b = some o → s'.heap.get? b = some o) → Q (.ref (s.heap.objs.size + 1)) s') :
    wpAny (model prog w) A (call (.ref 38) [.str x t]) Q E s := by
  obtain ⟨o, pm, c, ho, -, hd, hcd, -⟩ := G.f2
  refine wpAny_call (codeAny_call_generator hroom ho hd rfl rfl rfl hcd (wpAny_of_eq (a := [(Str.ofString "addr", Value.str x t)]) rfl ?_))
  refine wpAny_newFunctionEnv (show ∀ x ∈ (fS 2).names, x.2 ≠ .cell by decide +kernel) (by intro y hy; simp at hy; subst hy; rfl) (fun h₁ hns hsb => ?_) rfl
  have k₁ : ∀ b o, s.heap.get? b = some o → h₁.get? b = some o := fun b o e => hsb.extBut b o (Nat.ne_of_lt (Heap.lt_size e)) (Heap.get?_push_of_some _ e)
  have z₁ : h₁.objs.size = s.heap.objs.size + 1 := by rw [hsb.1, Heap.size_push]
  refine ⟨G.lim.keeps k₁, ?_⟩
  show Q (.ref h₁.objs.size) _
  rw [z₁]
  refine h _ ⟨G.keeps fun b o e => Heap.get?_push_of_some _ (k₁ b o e), ?_, _, rfl, rfl, .inl ⟨rfl, 38, .ref c, _, t, rfl, hns.push _, rfl⟩⟩ rfl fun b o e => Heap.get?_push_of_some _ (k₁ b o e)
  have hg := Heap.get?_push_size h₁ (o := { cls := .type "generator", data := .fields #[.int s.gens.size 0, .str (fN 2) (s.toks + 1), .str (fN 2) (s.toks + 1 + 1)] }) rfl
  rw [z₁] at hg
  exact ⟨_, _, _, hg, rfl, rfl, rfl⟩
end
end Mine
end

section
open PySem PySem.W PyProof.Rows PySem.SeqAt PySem.Calls
set_option Elab.async false
set_option maxRecDepth 100000
namespace Mine

/-- what _check_parenthesis says of the rest, with so many open -/
def chk : Int → List Nat → Bool
  | o, [] => o == 0
  | o, c :: r => if c = 40 then chk (o + 1) r else if c = 41 then (if o - 1 < 0 then false else chk (o - 1) r) else chk o r

section
variable {prog : Program} {w : World} {A : Around} {E : Value → Shared → Prop} {s : Shared} {env : Env}

theorem letGo_gen {elts : List Expr} {x1} {pos : Pos} {ga T : Addr} {g : Nat} {Q : Unit → Shared → Prop} (hg : s.heap.IsGen ga g) (hQ : Q () s) :
    wpAny (model prog w) A (letOwnedTupleGo (.Tuple elts x1 pos) (.ref ga) (.ref T)) Q E s := by
  obtain ⟨o, nm, qn, ho, hc, hd, _⟩ := hg
  unfold letOwnedTupleGo
  refine wpAny_bind (wpAny_load ho ?_)
  rw [hc, hd]
  show wpAny _ A (if (["enumerate", "zip", "dict_itemiterator", "dict_reverseitemiterator", "odict_iterator", "itertools.zip_longest", "itertools.pairwise"].contains "generator" && _) = true then _ else _) Q E s
  rw [if_neg (by
    intro h
    rw [show (["enumerate", "zip", "dict_itemiterator", "dict_reverseitemiterator", "odict_iterator", "itertools.zip_longest", "itertools.pairwise"].contains "generator") = false from by decide, Bool.false_and] at h
    cases h)]
  exact wpAny_pure hQ

theorem GnAt.frame {A : Around} {x : Str} {Lc Lg ga : Addr} {G0 : Array GenState} {i : Nat} {h' : Heap} {tk : Nat} (I : GnAt prog w A x Lg ga G0 i s) (h1 : @LE.le Nat _ 85 Lc) (h2 : @LT.lt Nat _ Lc Lg) (h3 : @LT.lt Nat _ Lg ga)
    (k : ∀ b o, b ≠ Lc → s.heap.get? b = some o → h'.get? b = some o) : GnAt prog w A x Lg ga G0 i { s with heap := h', toks := tk } := by
  have ne : ∀ b : Nat, @LT.lt Nat _ Lc b → b ≠ Lc := fun b hb => Nat.ne_of_gt hb
  obtain ⟨G, ⟨o, nm, qn, ho, r⟩, gs, hgs, hb, hc⟩ := I
  refine ⟨G.kp (n₁ := 0) (P := fun b => @LT.lt Nat _ b 85) (KpOn.of_keep fun b o (hb : @LT.lt Nat _ b 85) e => k b o (Nat.ne_of_lt (Nat.lt_of_lt_of_le hb h1)) e) fun _ h => h, ⟨o, nm, qn, k _ _ (ne _ (Nat.lt_trans h2 h3)) ho, r⟩, gs, hgs, hb, ?_⟩
  rcases hc with ⟨rfl, a, cd, m, t, rfl, hn, hm⟩ | ⟨e, it, q1, q2, hgo⟩
  · exact .inl ⟨rfl, a, cd, m, t, rfl, hn.at' fun o e => k _ _ (ne _ h2) e, hm⟩
  · refine .inr ⟨e, it, q1, q2, fun s'' hal => hgo s'' fun b hb o e' => hal b hb o (k b o (ne b ?_) e')⟩
    simp at hb
    rcases hb with rfl | rfl | rfl <;> omega

set_option maxHeartbeats 4000000 in
theorem check_call {x : Str} {t : Tok} {Q : Value → Shared → Prop} (G : Gl s.heap) (hh : A.handled = none) (hroom : A.depth + 5 < recursionLimit) (hz : 85 ≤ s.heap.objs.size)
    (hasc : strIterType x = "str_ascii_iterator") (hx : ∀ c ∈ x.cps, c = 40 ∨ c = 41)
    (h : ∀ s', (∀ b o, s.heap.get? b = some o → s'.heap.get? b = some o) → s'.os = s.os → (∃ gs, s'.gens = s.gens.push gs ∧ gs.bare = true) → Q (.bool (chk 0 x.cps.toList)) s') :
    wpAny (model prog w) A (call (.ref 52) [.str x t]) Q E s := by
  have h92 : ∀ c ∈ x.cps, c ≠ 92 := fun c hc => by rcases hx c hc with q | q <;> omega
  have h34 : ∀ c ∈ x.cps, c ≠ 34 := fun c hc => by rcases hx c hc with q | q <;> omega
  obtain ⟨o, pm, c, ho, -, hd, hcd, -⟩ := G.f4
  refine wpAny_call (call_plain_ret (binds := [(Str.ofString "addr", Value.str x t)]) (by omega) ho hd G.lim hcd rfl (by intro y hy; simp at hy; subst hy; rfl) (fun h₁ F => ?_) rfl rfl rfl (by decide +kernel))
  have G₁ : Gl h₁ := G.keeps F.keep
  refine wpAny_execs_cons (wpAny_Assign_Name (Call_ (nmG G₁ gt_strip (call_fn1 G₁.f3 (nmL F.ns (v := .str x t) rfl ⟨rfl, strip_call G₁ (by show A.depth + 1 < _; omega) h34 fun s₂ K₂ => ?_⟩)))))
  obtain ⟨h₂, t₂, rfl, k₂⟩ := K₂
  replace k₂ : ∀ b o, h₁.get? b = some o → h₂.get? b = some o := k₂
  have F₂ : Fr s.heap s.heap.objs.size h₂ _ := ⟨F.ns.keeps k₂, fun b o e => k₂ b o (F.keep b o e), F.above⟩
  refine st F₂ (fun h₃ F₃ => ?_) rfl rfl
  refine wpAny_execs_cons (wpAny_Assign_Name (wpAny_Constant_int (st F₃ (fun h₄ F₄ => ?_) rfl rfl)))
  have G₄ : Gl h₄ := G.keeps F₄.keep
  have L₄ : s.heap.objs.size < h₄.objs.size := F₄.ns.lt
  refine wpAny_execs_cons (wpAny_For (Call_ (nmG G₄ gt_iter (call_fn1 G₄.f2 (nmL F₄.ns (v := .str x t) rfl ⟨rfl, iter_call (A' := A.deeper (envOf (fN 4) (fS 4) s.heap.objs.size 52 (.ref c))) G₄ (by show A.depth + 1 < _; omega) fun s₅ I₅ o₅ k₅ => ?_⟩)))))
  replace o₅ : s₅.os = s.os := o₅
  replace k₅ : ∀ b o, h₄.get? b = some o → s₅.heap.get? b = some o := k₅
  replace I₅ : GnAt prog w (A.deeper (envOf (fN 4) (fS 4) s.heap.objs.size 52 (.ref c))) x h₄.objs.size (h₄.objs.size + 1) s.gens 0 s₅ := I₅
  refine wpAny_pyIter_gen I₅.gen ?_
  have hga : @LT.lt Nat _ h₄.objs.size (h₄.objs.size + 1) := Nat.lt_succ_self _
  have hh' : (A.deeper (envOf (fN 4) (fS 4) s.heap.objs.size 52 (.ref c))).handled = none := hh
  have hroom' : (A.deeper (envOf (fN 4) (fS 4) s.heap.objs.size 52 (.ref c))).depth < recursionLimit := by show A.depth + 1 < _; omega
  have hLg : 85 ≤ h₄.objs.size := Nat.le_of_lt (Nat.lt_of_le_of_lt hz L₄)
  refine codeAny_forLoop_any (fun n s' => ∃ i m op tk, n = x.cps.size - i ∧ i ≤ x.cps.size ∧ GnAt prog w (A.deeper (envOf (fN 4) (fS 4) s.heap.objs.size 52 (.ref c))) x h₄.objs.size (h₄.objs.size + 1) s.gens i s' ∧ s'.os = s.os ∧
      Fr s.heap s.heap.objs.size s'.heap m ∧ m (Str.ofString "opens") = some (.int op tk) ∧ chk op (x.cps.toList.drop i) = chk 0 x.cps.toList) ?_ _ ⟨0, _, 0, _, rfl, Nat.zero_le _, I₅, o₅, ⟨F₄.ns.keeps k₅, fun b o e => k₅ b o (F₄.keep b o e), F₄.above⟩, rfl, rfl⟩
  rintro n s' ⟨i, m, op, tk, rfl, hi, I, os', F', hm, hchk⟩
  rcases Nat.lt_or_ge i x.cps.size with hlt | hge
  · refine gn_item hh' hroom' hasc h92 hLg hga I hlt fun T tk' u ch s₁ hc hT I₁ o₁ k₁ => ?_
    show wpAny _ _ _ _ _ _
    refine letGo_gen I₁.gen ?_
    refine wpAny_assign_Tuple hh hT rfl rfl fun h₂ x₂ => ?_
    replace x₂ : Heap.ExtBut s₁.heap.objs.size s₁.heap h₂ := x₂
    have kk₂ : ∀ b o, s₁.heap.get? b = some o → h₂.get? b = some o := fun b o e => x₂ b o (Nat.ne_of_lt (Heap.lt_size e)) e
    have lc : s.heap.objs.size ≠ h₄.objs.size := Nat.ne_of_lt L₄
    have F₂ : Fr s.heap s.heap.objs.size h₂ m := ⟨F'.ns.at' fun o e => kk₂ _ o (k₁ _ o lc (Nat.le_succ_of_le (Nat.le_of_lt L₄)) e), fun b o e => kk₂ b o (k₁ b o (Nat.ne_of_lt (Nat.lt_trans (Heap.lt_size e) L₄)) (Nat.le_succ_of_le (Nat.le_of_lt (Nat.lt_trans (Heap.lt_size e) L₄))) (F'.keep b o e)), F'.above⟩
    show wpAny _ _ (do holding [_] (assign (.Name (Str.ofString "pos") _) _ _); do holding [] (assign (.Name (Str.ofString "ch") _) _ _); pure ()) _ _ _
    refine wpAny_bind (wpAny_holding (wpAny_assign_Name (wpAny_storeName_local (env := envOf (fN 4) (fS 4) s.heap.objs.size 52 (.ref c)) rfl F₂.ns (fun h₃ n₃ s₃ => ?_) rfl)))
    refine wpAny_bind (wpAny_holding (wpAny_assign_Name (wpAny_storeName_local (env := envOf (fN 4) (fS 4) s.heap.objs.size 52 (.ref c)) rfl n₃ (fun h₆ n₆ s₆ => wpAny_pure ?_) rfl)))
    replace s₃ : Heap.SameBut s.heap.objs.size h₂ h₃ := s₃
    replace s₆ : Heap.SameBut s.heap.objs.size h₃ h₆ := s₆
    have F₆ : Fr s.heap s.heap.objs.size h₆ _ := (F₂.set n₃ s₃).set n₆ s₆
    have k₆ : ∀ b o, b ≠ s.heap.objs.size → s₁.heap.get? b = some o → h₆.get? b = some o := fun b o hb e => s₆.extBut b o hb (s₃.extBut b o hb (kk₂ b o e))
    have hdr : x.cps.toList.drop i = ch :: x.cps.toList.drop (i + 1) := by
      have := List.drop_eq_getElem_cons (l := x.cps.toList) (i := i) (by simpa using hlt)
      rw [this]
      obtain ⟨_, q⟩ := Array.getElem?_eq_some_iff.mp hc
      simp [q]
    rw [hdr] at hchk
    have hch : ch = 40 ∨ ch = 41 := hx ch (Array.mem_of_getElem? hc)
    have nx : ∀ (op' : Int) (h₇ : Heap) (m₇ : Str → Option Value) (tk₇ tk₈ : Nat), Fr s.heap s.heap.objs.size h₇ m₇ → (∀ b o, b ≠ s.heap.objs.size → h₆.get? b = some o → h₇.get? b = some o) → m₇ (Str.ofString "opens") = some (.int op' tk₇) →
        chk op' (x.cps.toList.drop (i + 1)) = chk 0 x.cps.toList → ∃ n, n < x.cps.size - i ∧ ∃ i m op tk, n = x.cps.size - i ∧ i ≤ x.cps.size ∧ GnAt prog w (A.deeper (envOf (fN 4) (fS 4) s.heap.objs.size 52 (.ref c))) x h₄.objs.size (h₄.objs.size + 1) s.gens i { s₁ with heap := h₇, toks := tk₈ } ∧ s₁.os = s.os ∧
      Fr s.heap s.heap.objs.size h₇ m ∧ m (Str.ofString "opens") = some (.int op tk) ∧ chk op (x.cps.toList.drop i) = chk 0 x.cps.toList := fun op' h₇ m₇ tk₇ tk₈ F₇ k₇ q₇ c₇ =>
      ⟨x.cps.size - (i + 1), by omega, i + 1, m₇, op', tk₇, rfl, hlt, I₁.frame (Lc := s.heap.objs.size) hz L₄ hga fun b o hb e => k₇ b o hb (k₆ b o hb e), o₁.trans os', F₇, q₇, c₇⟩
    rcases hch with rfl | rfl
    · refine wpAny_execs_cons (wpAny_If (wpAny_isTrue_Compare1 (ld F₆ (v := .str ⟨#[40]⟩ u) rfl (wpAny_Constant_str (P.eq_str (wpAny_truthy_bool ?_))))))
      show wpAny _ _ (execs _ _) _ _ _
      refine wpAny_execs_cons (wpAny_AugAssign_Name (ldn F₆ hm (wpAny_Constant_int (P.iadd_int (wpAny_storeName_local (env := envOf (fN 4) (fS 4) s.heap.objs.size 52 (.ref c)) rfl F₆.ns (fun h₇ n₇ s₇ => ?_) rfl)))))
      replace s₇ : Heap.SameBut s.heap.objs.size h₆ h₇ := s₇
      refine wpAny_execs_nil (wpAny_execs_nil (nx (op + 1) h₇ _ _ _ (F₆.set n₇ s₇) (fun b o hb e => s₇.extBut b o hb e) rfl ?_))
      exact hchk
    · refine wpAny_execs_cons (wpAny_If (wpAny_isTrue_Compare1 (ld F₆ (v := .str ⟨#[41]⟩ u) rfl (wpAny_Constant_str (P.eq_str (wpAny_truthy_bool ?_))))))
      show wpAny _ _ (execs _ _) _ _ _
      refine wpAny_execs_cons (wpAny_If (wpAny_isTrue_Compare1 (ld F₆ (v := .str ⟨#[41]⟩ u) rfl (wpAny_Constant_str (P.eq_str (wpAny_truthy_bool ?_))))))
      show wpAny _ _ (execs _ _) _ _ _
      refine wpAny_execs_cons (wpAny_AugAssign_Name (ldn F₆ hm (wpAny_Constant_int (P.isub_int (wpAny_storeName_local (env := envOf (fN 4) (fS 4) s.heap.objs.size 52 (.ref c)) rfl F₆.ns (fun h₇ n₇ s₇ => ?_) rfl)))))
      replace s₇ : Heap.SameBut s.heap.objs.size h₆ h₇ := s₇
      have F₇ : Fr s.heap s.heap.objs.size h₇ _ := F₆.set n₇ s₇
      refine wpAny_execs_cons (wpAny_If (wpAny_isTrue_Compare1 (ld F₇ (v := .int (op - 1) _) rfl (wpAny_Constant_int (P.lt_int (wpAny_truthy_bool ?_))))))
      by_cases hneg : op - 1 < 0
      · rw [decide_eq_true hneg]
        show wpAny _ _ (execs _ _) _ _ _
        refine wpAny_execs_cons (wpAny_Return_some (wpAny_Constant_bool ?_))
        have e : chk 0 x.cps.toList = false := by rw [← hchk]; show (if op - 1 < 0 then false else _) = false; rw [if_pos hneg]
        show Q (.bool false) _
        rw [← e]
        obtain ⟨gs, hgs, hb, _⟩ := I₁.go
        exact h _ F₇.keep (o₁.trans os') ⟨gs, hgs, hb⟩
      · rw [decide_eq_false hneg]
        show wpAny _ _ (execs _ _) _ _ _
        refine wpAny_execs_nil (wpAny_execs_nil (wpAny_execs_nil (wpAny_execs_nil (nx (op - 1) h₇ _ _ _ F₇ (fun b o hb e => s₇.extBut b o hb e) rfl ?_))))
        rw [← hchk]
        show _ = (if op - 1 < 0 then false else _)
        rw [if_neg hneg]
  · have hie : i = x.cps.size := Nat.le_antisymm hi hge
    refine gn_end hh' hroom' hasc h92 hLg hga I hie fun s₁ g₁ o₁ k₁ => ?_
    show wpAny _ _ _ _ _ _
    refine wpAny_execs_nil ?_
    have lc : s.heap.objs.size ≠ h₄.objs.size := Nat.ne_of_lt L₄
    have F₁ : Fr s.heap s.heap.objs.size s₁.heap m := ⟨F'.ns.at' fun o e => k₁ _ o lc (Nat.le_succ_of_le (Nat.le_of_lt L₄)) e, fun b o e => k₁ b o (Nat.ne_of_lt (Nat.lt_trans (Heap.lt_size e) L₄)) (Nat.le_succ_of_le (Nat.le_of_lt (Nat.lt_trans (Heap.lt_size e) L₄))) (F'.keep b o e), F'.above⟩
    refine wpAny_execs_cons (wpAny_Return_some (wpAny_Compare1 (ld F₁ hm (wpAny_Constant_int (PyProof.Rows.eq_int ?_)))))
    rw [hie, List.drop_of_length_le (by simp)] at hchk
    have e : (op == 0) = chk 0 x.cps.toList := hchk
    show Q (.bool (op == 0)) _
    rw [e]
    exact h _ F₁.keep (o₁.trans os') g₁
end
end Mine
end

section
open PySem
set_option Elab.async false
set_option maxRecDepth 100000
namespace Mine
open PySem.Sre

/-- the words of the pattern -/
def cdN : Array Nat := #[14, 4, 0, 1, 4294967295, 17, 0, 7, 14, 24, 10, 1, 4294967295, 13, 5, 22, 48, 57, 0, 1, 15, 17, 15, 13, 11, 9, 0, 26624, 2147483648, 0, 0, 0, 0, 0, 0, 15, 2, 0, 17, 1, 1]

def stepN : Nat → M → M
  | 0, m => m
  | n + 1, m => stepN n m.step
theorem stepN_add (a b : Nat) (m : M) : stepN (a + b) m = stepN b (stepN a m) := by
  induction a generalizing m with
  | zero => rw [Nat.zero_add]; rfl
  | succ a ih => rw [Nat.add_right_comm]; exact ih _
theorem step_done {m : M} (h : m.outcome.isSome = true) : m.step = m := by unfold M.step; rw [if_pos h]
theorem stepN_done {m : M} (h : m.outcome.isSome = true) : ∀ n, stepN n m = m
  | 0 => rfl
  | n + 1 => by show stepN n m.step = m; rw [step_done h]; exact stepN_done h n
theorem runFor_eq : ∀ (n : Nat) (m : M), M.runFor n m = stepN n m
  | 0, _ => rfl
  | n + 1, m => by
    show (if m.outcome.isSome then m else M.runFor n m.step) = stepN n m.step
    by_cases h : m.outcome.isSome = true
    · rw [if_pos h, step_done h, stepN_done h]
    · rw [if_neg h, runFor_eq n]

/-- the machine at an attempt -/
def st0 (t : Array Nat) (first : Bool) (mk : Array (Option Nat)) (sn : Sre.Seen) (s : Nat) : M :=
  { code := cdN, text := t, lim := t.size, start := s, lastStart := t.size, pc := 5, pos := s, handed := s, outermost := first, marks := mk, frames := [{ wait := .nextStart, pc := 5, pos := s, outermost := first }], weight := 1, seen := sn }

theorem for_search (t : Array Nat) (p : Nat) (h : p < t.size) : ∃ sn, forSearch cdN t 1 p t.size false = st0 t true #[none, none] sn p := by
  unfold forSearch
  have h1 : (decide (p > t.size) || decide (t.size - p < 1)) = false := by simp; omega
  have hd : header cdN = (1, 5) := rfl
  rw [hd]
  refine ⟨({} : Sre.Seen).add 14, (if_neg (by rw [h1]; exact Bool.false_ne_true)).trans ?_⟩
  rfl

def stA (t : Array Nat) (first : Bool) (mk : Array (Option Nat)) (sn : Sre.Seen) (s : Nat) : M :=
  { st0 t first mk sn s with pc := 9, lastmark := 0, frames := [{ wait := .nextBranch, pc := 8, pos := s, outermost := first, kept := { lastmark := 0 } }, { wait := .nextStart, pc := 5, pos := s, outermost := first }], weight := 2 }
theorem to_A (t : Array Nat) (first : Bool) (a b : Option Nat) (sn : Sre.Seen) (s : Nat) : ∃ sn', stepN 2 (st0 t first #[a, b] sn s) = stA t first #[some s, b] sn' s := ⟨_, rfl⟩

def isD (c : Nat) : Bool := 48 ≤ c && c ≤ 57
theorem accepts_D (c : Nat) (sn : Sre.Seen) : ∃ sn', accepts cdN 13 c sn = .ok (isD c, sn') := by
  by_cases h : isD c = true
  · rw [h]; unfold isD at h
    refine ⟨sn.add 22, ?_⟩
    show (if (decide (48 ≤ c) && decide (c ≤ 57)) = true then Except.ok (true, sn.add 22) else _) = _
    rw [if_pos h]
  · have h' : isD c = false := by simpa using h
    rw [h']; unfold isD at h
    refine ⟨(sn.add 22).add 0, ?_⟩
    show (if (decide (48 ≤ c) && decide (c ≤ 57)) = true then Except.ok (true, sn.add 22) else _) = _
    rw [if_neg h]; rfl

theorem run_D (t : Array Nat) : ∀ (k n p found : Nat) (sn : Sre.Seen), k ≤ n → (∀ i, i < k → isD (t.getD (p + i) 0) = true) → (k = n ∨ isD (t.getD (p + k) 0) = false) → ∃ sn', Sre.run cdN t 13 n p found sn = .ok (found + k, sn')
  | 0, n, p, found, sn, _, _, he => by
    cases n with
    | zero => exact ⟨sn, rfl⟩
    | succ n =>
      rcases he with h | h
      · cases h
      · obtain ⟨sn', hs⟩ := accepts_D (t.getD p 0) sn
        rw [show isD (t.getD p 0) = false from h] at hs
        exact ⟨sn', by unfold Sre.run; rw [hs]; rfl⟩
  | k + 1, n, p, found, sn, hk, hd, he => by
    cases n with
    | zero => omega
    | succ n =>
      obtain ⟨sn', hs⟩ := accepts_D (t.getD p 0) sn
      rw [show isD (t.getD p 0) = true from hd 0 (by omega)] at hs
      obtain ⟨sn'', hr⟩ := run_D t k n (p + 1) (found + 1) sn' (by omega) (fun i hi => by have := hd (i + 1) (by omega); rwa [show p + (i + 1) = p + 1 + i by omega] at this)
        (by rcases he with h | h
            · exact .inl (by omega)
            · right; rwa [show p + (k + 1) = p + 1 + k by omega] at h)
      refine ⟨sn'', ?_⟩
      unfold Sre.run
      rw [hs]
      show Sre.run cdN t 13 n (p + 1) (found + 1) sn' = _
      rw [hr]
      congr 2
      omega

/-- behind the digits -/
def stB (t : Array Nat) (first : Bool) (mk : Array (Option Nat)) (sn : Sre.Seen) (s n : Nat) : M :=
  { stA t first mk sn s with pc := 20, pos := s + n, handed := s + n, frames := { wait := .giveBack, pc := 9, pos := s + n, outermost := first, count := n, kept := { lastmark := 0 } } :: (stA t first mk sn s).frames, weight := 3 }

theorem A_digits (t : Array Nat) (first : Bool) (mk : Array (Option Nat)) (sn : Sre.Seen) (s n : Nat) (hs : s + (n + 1) ≤ t.size) (hbig : t.size < 4294967295) (hd : ∀ i, i < n + 1 → isD (t.getD (s + i) 0) = true)
    (he : s + (n + 1) = t.size ∨ isD (t.getD (s + (n + 1)) 0) = false) : ∃ sn', (stA t first mk sn s).step = stB t first mk sn' s (n + 1) := by
  have hm : min 4294967295 ((t.size : Int) - (s : Int)).toNat = t.size - s := by omega
  obtain ⟨sn', hr⟩ := run_D t (n + 1) (t.size - s) s 0 ((sn.add 24).add 13) (by omega) hd (by rcases he with h | h; exact .inl (by omega); exact .inr h)
  refine ⟨sn', ?_⟩
  show (if ((1 : Nat) : Int) > (t.size : Int) - (s : Int) then _ else (match Sre.run cdN t 13 (min 4294967295 ((t.size : Int) - (s : Int)).toNat) s 0 ((sn.add 24).add 13) with | .error why => _ | .ok (n, seen) => _) : M) = _
  rw [if_neg (by omega), hm, hr]
  simp only [Nat.zero_add]
  show (if n + 1 < 1 then _ else _ : M) = _
  rw [if_neg (by omega)]
  rfl

/-- what a search that has found says -/
def Found (m : M) (b e : Nat) : Prop := (∃ o, m.outcome = some o ∧ o = .matched) ∧ m.start = b ∧ m.handed = e ∧ m.marks = #[some b, some e] ∧ m.lastmark = 1

/-- at the last mark, with so many frames -/
def stE (t : Array Nat) (first : Bool) (b : Option Nat) (sn : Sre.Seen) (hd s e : Nat) (fs : List Sre.Frame) (w : Nat) : M :=
  { code := cdN, text := t, lim := t.size, start := s, lastStart := t.size, pc := 38, pos := e, handed := hd, outermost := first, marks := #[some s, b], lastmark := 0, frames := fs, weight := w, seen := sn }
def stF (t : Array Nat) (first : Bool) (sn : Sre.Seen) (li : Int) (hd s e : Nat) (fs : List Sre.Frame) (w : Nat) : M :=
  { code := cdN, text := t, lim := t.size, start := s, lastStart := t.size, pc := 40, pos := e, handed := hd, outermost := first, marks := #[some s, some e], lastmark := 1, lastindex := li, frames := fs, weight := w, seen := sn }
theorem E_F (t : Array Nat) (first : Bool) (b : Option Nat) (sn : Sre.Seen) (hd s e : Nat) (fs : List Sre.Frame) (w : Nat) : ∃ sn' li, (stE t first b sn hd s e fs w).step = stF t first sn' li hd s e fs w := ⟨sn.add 17, _, rfl⟩
theorem F_say (t : Array Nat) (first : Bool) (sn : Sre.Seen) (li : Int) (hd s e : Nat) (fs : List Sre.Frame) (w : Nat) : ∃ sn', (stF t first sn li hd s e fs w).step = ({ stF t first sn' li e s e fs w with answer := some true } : M) := by
  cases first
  · exact ⟨sn.add 1, rfl⟩
  · exact ⟨sn.add 1, rfl⟩
/-- a machine that has said yes goes out through frames of these kinds -/
def Yes (m : M) (b e : Nat) : Prop := m.outcome = none ∧ m.answer = some true ∧ m.start = b ∧ m.handed = e ∧ m.marks = #[some b, some e] ∧ m.lastmark = 1
def easy (f : Sre.Frame) : Prop := f.wait = .giveBack ∨ f.wait = .nextBranch ∨ f.wait = .nextStart
theorem resume_yes (m : M) (f : Sre.Frame) (h : easy f) : m.resume f true = m.say true := by
  obtain ⟨w, pc, pos, ou, ct, kp, lp, bg⟩ := f
  rcases h with q | q | q <;> (simp only at q; subst q; rfl)
theorem yes_out {b e : Nat} : ∀ (fs : List Sre.Frame) (m : M), m.frames = fs → (∀ f ∈ fs, easy f) → Yes m b e → Found (stepN (fs.length + 1) m) b e
  | [], m, hf, _, hy => by
    obtain ⟨h1, h2, h3, h4, h5, h6⟩ := hy
    have : m.step = { m with outcome := some .matched } := by
      unfold M.step; rw [h1, h2, hf]; rfl
    show Found (m.step) b e
    rw [this]
    exact ⟨⟨_, rfl, rfl⟩, h3, h4, h5, h6⟩
  | f :: fs, m, hf, he, hy => by
    obtain ⟨h1, h2, h3, h4, h5, h6⟩ := hy
    have hs : ∃ m', m.step = m' ∧ m'.frames = fs ∧ Yes m' b e := by
      refine ⟨_, rfl, ?_⟩
      unfold M.step; rw [h1, h2, hf]
      show (M.resume _ f true).frames = fs ∧ Yes (M.resume _ f true) b e
      rw [resume_yes _ f (he f List.mem_cons_self)]
      exact ⟨rfl, rfl, rfl, h3, h4, h5, h6⟩
    obtain ⟨m', e1, e2, e3⟩ := hs
    show Found (stepN (fs.length + 1) m.step) b e
    rw [e1]
    exact yes_out fs m' e2 (fun g hg => he g (List.mem_cons_of_mem _ hg)) e3
theorem E_found (t : Array Nat) (first : Bool) (b : Option Nat) (sn : Sre.Seen) (hd s e : Nat) (fs : List Sre.Frame) (w : Nat) (he : ∀ f ∈ fs, easy f) : Found (stepN (2 + (fs.length + 1)) (stE t first b sn hd s e fs w)) s e := by
  obtain ⟨sn1, li, h1⟩ := E_F t first b sn hd s e fs w
  obtain ⟨sn2, h2⟩ := F_say t first sn1 li hd s e fs w
  rw [stepN_add, show stepN 2 (stE t first b sn hd s e fs w) = ({ stF t first sn2 li e s e fs w with answer := some true } : M) from by show ((stE t first b sn hd s e fs w).step).step = _; rw [h1, h2]]
  exact yes_out fs _ rfl he ⟨rfl, rfl, rfl, rfl, rfl, rfl⟩

theorem B_found (t : Array Nat) (first : Bool) (b : Option Nat) (sn : Sre.Seen) (s n : Nat) : Found (stepN 7 (stB t first #[some s, b] sn s n)) s (s + n) := by
  have h := E_found t first b (sn.add 15) (s + n) s (s + n) [{ wait := .giveBack, pc := 9, pos := s + n, outermost := first, count := n, kept := { lastmark := 0 } }, { wait := .nextBranch, pc := 8, pos := s, outermost := first, kept := { lastmark := 0 } }, { wait := .nextStart, pc := 5, pos := s, outermost := first }] 3
    (by intro f hf; simp at hf; rcases hf with rfl | rfl | rfl; exact .inl rfl; exact .inr (.inl rfl); exact .inr (.inr rfl))
  have e : (stB t first #[some s, b] sn s n).step = stE t first b (sn.add 15) (s + n) s (s + n) [{ wait := .giveBack, pc := 9, pos := s + n, outermost := first, count := n, kept := { lastmark := 0 } }, { wait := .nextBranch, pc := 8, pos := s, outermost := first, kept := { lastmark := 0 } }, { wait := .nextStart, pc := 5, pos := s, outermost := first }] 3 := rfl
  show Found (stepN 6 (stB t first #[some s, b] sn s n).step) s (s + n)
  rw [e]; exact h

theorem search_digits (t : Array Nat) (first : Bool) (a b : Option Nat) (sn : Sre.Seen) (s n : Nat) (hs : s + (n + 1) ≤ t.size) (hbig : t.size < 4294967295) (hd : ∀ i, i < n + 1 → isD (t.getD (s + i) 0) = true)
    (he : s + (n + 1) = t.size ∨ isD (t.getD (s + (n + 1)) 0) = false) : Found (stepN 10 (st0 t first #[a, b] sn s)) s (s + (n + 1)) := by
  obtain ⟨sn1, h1⟩ := to_A t first a b sn s
  obtain ⟨sn2, h2⟩ := A_digits t first #[some s, b] sn1 s n hs hbig hd he
  rw [show (10 : Nat) = 2 + (1 + 7) from rfl, stepN_add, h1, stepN_add, show stepN 1 (stA t first #[some s, b] sn1 s) = _ from h2]
  exact B_found t first b sn2 s (n + 1)

/-- no digit here: the second road -/
def stC (t : Array Nat) (first : Bool) (mk : Array (Option Nat)) (sn : Sre.Seen) (s : Nat) : M :=
  { st0 t first mk sn s with pc := 23, lastmark := 0, frames := [{ wait := .nextBranch, pc := 22, pos := s, outermost := first, kept := { lastmark := 0 } }, { wait := .nextStart, pc := 5, pos := s, outermost := first }], weight := 2 }

theorem A_none (t : Array Nat) (first : Bool) (mk : Array (Option Nat)) (sn : Sre.Seen) (s : Nat) (hs : s ≤ t.size) (hd : s = t.size ∨ isD (t.getD s 0) = false) : ∃ sn', stepN 2 (stA t first mk sn s) = stC t first mk sn' s := by
  rcases hd with rfl | hd
  · refine ⟨sn.add 24, ?_⟩
    have e1 : (stA t first mk sn t.size).step = ({ stA t first mk (sn.add 24) t.size with answer := some false } : M) := by
      show (if ((1 : Nat) : Int) > (t.size : Int) - (t.size : Int) then _ else _ : M) = _
      rw [if_pos (by omega)]; rfl
    show stepN 1 (stA t first mk sn t.size).step = _
    rw [e1]; rfl
  · by_cases hlt : s = t.size
    · subst hlt
      refine ⟨sn.add 24, ?_⟩
      have e1 : (stA t first mk sn t.size).step = ({ stA t first mk (sn.add 24) t.size with answer := some false } : M) := by
        show (if ((1 : Nat) : Int) > (t.size : Int) - (t.size : Int) then _ else _ : M) = _
        rw [if_pos (by omega)]; rfl
      show stepN 1 (stA t first mk sn t.size).step = _
      rw [e1]; rfl
    · obtain ⟨sn', hr⟩ := run_D t 0 (min 4294967295 ((t.size : Int) - (s : Int)).toNat) s 0 ((sn.add 24).add 13) (Nat.zero_le _) (fun i hi => absurd hi (Nat.not_lt_zero _)) (.inr hd)
      refine ⟨sn', ?_⟩
      have e1 : (stA t first mk sn s).step = ({ stA t first mk sn' s with answer := some false } : M) := by
        show (if ((1 : Nat) : Int) > (t.size : Int) - (s : Int) then _ else (match Sre.run cdN t 13 (min 4294967295 ((t.size : Int) - (s : Int)).toNat) s 0 ((sn.add 24).add 13) with | .error why => _ | .ok (n, seen) => _) : M) = _
        rw [if_neg (by omega), hr]
        rfl
      show stepN 1 (stA t first mk sn s).step = _
      rw [e1]; rfl

def isS (c : Nat) : Bool := decide (c < 256) && (cdN.getD (26 + c / 32) 0).testBit (c % 32)
theorem accepts_S (c : Nat) (sn : Sre.Seen) : ∃ sn', accepts cdN 23 c sn = .ok (isS c, sn') := by
  by_cases h : isS c = true
  · rw [h]; unfold isS at h
    refine ⟨sn.add 9, ?_⟩
    show (if (decide (c < 256) && (cdN.getD (25 + (1 + c / 32)) 0).testBit (c % 32)) = true then Except.ok (true, sn.add 9) else _) = _
    rw [show 25 + (1 + c / 32) = 26 + c / 32 by omega, if_pos h]
  · have h' : isS c = false := by simpa using h
    rw [h']; unfold isS at h
    refine ⟨(sn.add 9).add 0, ?_⟩
    show (if (decide (c < 256) && (cdN.getD (25 + (1 + c / 32)) 0).testBit (c % 32)) = true then Except.ok (true, sn.add 9) else _) = _
    rw [show 25 + (1 + c / 32) = 26 + c / 32 by omega, if_neg h]; rfl

def stD (t : Array Nat) (first : Bool) (mk : Array (Option Nat)) (sn : Sre.Seen) (s : Nat) : M := { stC t first mk sn s with pc := 35, pos := s + 1 }

theorem C_sign (t : Array Nat) (first : Bool) (mk : Array (Option Nat)) (sn : Sre.Seen) (s : Nat) (hs : s < t.size) (hc : isS (t.getD s 0) = true) : ∃ sn', (stC t first mk sn s).step = stD t first mk sn' s := by
  obtain ⟨sn', ha⟩ := accepts_S (t.getD s 0) (sn.add 13)
  refine ⟨sn', ?_⟩
  show (if s ≥ t.size then _ else (match accepts cdN 23 (t.getD s 0) (sn.add 13) with | .error why => _ | .ok (false, seen) => _ | .ok (true, seen) => _) : M) = _
  rw [if_neg (by omega), ha, hc]
  rfl
theorem D_found (t : Array Nat) (first : Bool) (b : Option Nat) (sn : Sre.Seen) (s : Nat) : Found (stepN 6 (stD t first #[some s, b] sn s)) s (s + 1) := by
  have h := E_found t first b (sn.add 15) s s (s + 1) [{ wait := .nextBranch, pc := 22, pos := s, outermost := first, kept := { lastmark := 0 } }, { wait := .nextStart, pc := 5, pos := s, outermost := first }] 2
    (by intro f hf; simp at hf; rcases hf with rfl | rfl; exact .inr (.inl rfl); exact .inr (.inr rfl))
  have e : (stD t first #[some s, b] sn s).step = stE t first b (sn.add 15) s s (s + 1) [{ wait := .nextBranch, pc := 22, pos := s, outermost := first, kept := { lastmark := 0 } }, { wait := .nextStart, pc := 5, pos := s, outermost := first }] 2 := rfl
  show Found (stepN 5 (stD t first #[some s, b] sn s).step) s (s + 1)
  rw [e]; exact h

theorem search_sign (t : Array Nat) (first : Bool) (a b : Option Nat) (sn : Sre.Seen) (s : Nat) (hs : s < t.size) (hd : isD (t.getD s 0) = false) (hc : isS (t.getD s 0) = true) :
    Found (stepN 11 (st0 t first #[a, b] sn s)) s (s + 1) := by
  obtain ⟨sn1, h1⟩ := to_A t first a b sn s
  obtain ⟨sn2, h2⟩ := A_none t first #[some s, b] sn1 s (by omega) (.inr hd)
  obtain ⟨sn3, h3⟩ := C_sign t first #[some s, b] sn2 s hs hc
  rw [show (11 : Nat) = 2 + (2 + (1 + 6)) from rfl, stepN_add, h1, stepN_add, h2, stepN_add, show stepN 1 (stC t first #[some s, b] sn2 s) = _ from h3]
  exact D_found t first b sn3 s

theorem C_none (t : Array Nat) (first : Bool) (mk : Array (Option Nat)) (sn : Sre.Seen) (s : Nat) (hs : s < t.size) (hc : isS (t.getD s 0) = false) : ∃ sn', stepN 3 (stC t first mk sn s) = st0 t false mk sn' (s + 1) := by
  obtain ⟨sn', ha⟩ := accepts_S (t.getD s 0) (sn.add 13)
  refine ⟨sn', ?_⟩
  have e1 : (stC t first mk sn s).step = ({ stC t first mk sn' s with answer := some false } : M) := by
    show (if s ≥ t.size then _ else (match accepts cdN 23 (t.getD s 0) (sn.add 13) with | .error why => _ | .ok (false, seen) => _ | .ok (true, seen) => _) : M) = _
    rw [if_neg (by omega), ha, hc]
    rfl
  show stepN 2 (stC t first mk sn s).step = _
  rw [e1]
  show (if s < t.size then _ else _ : M) = _
  rw [if_pos hs]; rfl

theorem search_skip (t : Array Nat) (first : Bool) (a b : Option Nat) (sn : Sre.Seen) (s : Nat) (hs : s < t.size) (hd : isD (t.getD s 0) = false) (hc : isS (t.getD s 0) = false) :
    ∃ sn', stepN 7 (st0 t first #[a, b] sn s) = st0 t false #[some s, b] sn' (s + 1) := by
  obtain ⟨sn1, h1⟩ := to_A t first a b sn s
  obtain ⟨sn2, h2⟩ := A_none t first #[some s, b] sn1 s (by omega) (.inr hd)
  obtain ⟨sn3, h3⟩ := C_none t first #[some s, b] sn2 s hs hc
  exact ⟨sn3, by rw [show (7 : Nat) = 2 + (2 + 3) from rfl, stepN_add, h1, stepN_add, h2, h3]⟩

theorem search_end (t : Array Nat) (first : Bool) (a b : Option Nat) (sn : Sre.Seen) : ∃ o, (stepN 8 (st0 t first #[a, b] sn t.size)).outcome = some o ∧ o = .failed := by
  obtain ⟨sn1, h1⟩ := to_A t first a b sn t.size
  obtain ⟨sn2, h2⟩ := A_none t first #[some t.size, b] sn1 t.size (Nat.le_refl _) (.inl rfl)
  have e1 : (stC t first #[some t.size, b] sn2 t.size).step = ({ stC t first #[some t.size, b] (sn2.add 13) t.size with answer := some false } : M) := by
    show (if t.size ≥ t.size then _ else _ : M) = _
    rw [if_pos (Nat.le_refl _)]; rfl
  have e2 : stepN 2 ({ stC t first #[some t.size, b] (sn2.add 13) t.size with answer := some false } : M) = { ({ st0 t first #[some t.size, b] (sn2.add 13) t.size with frames := [], weight := 0, lastmark := 0 } : M) with answer := some false } := by
    show (if t.size < t.size then _ else _ : M) = _
    rw [if_neg (Nat.lt_irrefl _)]; rfl
  refine ⟨.failed, ?_, rfl⟩
  rw [show (8 : Nat) = 2 + (2 + (1 + (2 + 1))) from rfl, stepN_add, h1, stepN_add, h2, stepN_add, show stepN 1 (stC t first #[some t.size, b] sn2 t.size) = _ from e1, stepN_add, e2]
  rfl

end Mine
end

section
open PySem
set_option Elab.async false
set_option maxRecDepth 100000
namespace Mine
open PySem.Sre

theorem plainAttrs_re : PlainAttrs "re.Pattern" :=
  ⟨⟨"object.__getattribute__", by rw [typeLookup_type, builtinLookup_eq_fast]; kernel_rfl, by decide +kernel⟩, by rw [typeLookup_type, builtinLookup_eq_fast]; kernel_rfl⟩
theorem owner_re : Manifest.owners.lookup (String.ofList "re.Pattern".toList.reverse.reverse) = some Manifest.sig_re_Pattern := by kernel_rfl
theorem slot_re_split : Slot "re.Pattern" "split" "re.Pattern.split" :=
  .of (owner := "re.Pattern") (n := "split") (by rw [typeLookup_type, builtinLookup_eq_fast]; kernel_rfl) (by decide +kernel) (by decide +kernel) (by decide +kernel)
    (by first | exact .inl (by decide +kernel) | exact .inr (by decide +kernel)) (by rw [isSubtype_type]; kernel_rfl)
theorem type_re_split : typeOf (.builtin "re.Pattern.split") = pure (.type "method_descriptor") := by show builtinType _ = _; rw [builtinType_eq_fast]; kernel_rfl
theorem entry_re_split : entryFor table "re.Pattern.split" = some Builtin.«re.Pattern.split» := entryFor_of_tree (by kernel_rfl)
theorem args_re_split (a b : Value) : argsOk "re.Pattern.split" ⟨[a, b], []⟩ := by
  unfold argsOk; rw [signature?_of (id := "re.Pattern.split") (n := "split".toList.reverse) (o := "re.Pattern".toList.reverse) (by kernel_rfl) owner_re]; kernel_rfl

theorem getD_drop {t : Array Nat} {p : Nat} {l : List Nat} (h : t.toList.drop p = l) (i : Nat) : t.getD (p + i) 0 = l.getD i 0 := by
  subst h
  simp [List.getD_eq_getElem?_getD, Array.getD_eq_getD_getElem?]
theorem size_drop {t : Array Nat} {p : Nat} {l : List Nat} (h : t.toList.drop p = l) (hp : p ≤ t.size) : t.size = p + l.length := by
  subst h; simp; omega

def isL (c : Nat) : Prop := isD c = false ∧ isS c = false

/-- a search goes over letters -/
theorem search_letters (t : Array Nat) (ls : List Nat) : ∀ (r : List Nat) (p : Nat) (first : Bool) (a b : Option Nat) (sn : Sre.Seen), t.toList.drop p = ls ++ r → p ≤ t.size → (∀ c ∈ ls, isL c) →
    ∃ first' a' sn', stepN (7 * ls.length) (st0 t first #[a, b] sn p) = st0 t first' #[a', b] sn' (p + ls.length) := by
  induction ls with
  | nil =>
    intro r p first a b sn _ _ _
    exact ⟨first, a, sn, by rw [List.length_nil, Nat.mul_zero, Nat.add_zero]; rfl⟩
  | cons c ls ih =>
    intro r p first a b sn h hp hl
    have hsz := size_drop h hp
    have hc : t.getD p 0 = c := by have := getD_drop h 0; simpa using this
    have hlt : p < t.size := by simp at hsz; omega
    obtain ⟨sn1, h1⟩ := search_skip t first a b sn p hlt (by rw [hc]; exact (hl c List.mem_cons_self).1) (by rw [hc]; exact (hl c List.mem_cons_self).2)
    have h' : t.toList.drop (p + 1) = ls ++ r := by
      rw [← List.drop_drop, h]; rfl
    obtain ⟨f', a', sn', h2⟩ := ih r (p + 1) false (some p) b sn1 h' hlt (fun x hx => hl x (List.mem_cons_of_mem _ hx))
    refine ⟨f', a', sn', ?_⟩
    have e1 : 7 * (c :: ls).length = 7 + 7 * ls.length := by simp; omega
    have e2 : p + (c :: ls).length = p + 1 + ls.length := by simp; omega
    rw [e1, e2, stepN_add, h1]
    exact h2

inductive Spl : List Nat → List (List Nat) → Prop
  | done {ls : List Nat} : (∀ c ∈ ls, isL c) → Spl ls [ls]
  | digits {ls ds r : List Nat} {ps : List (List Nat)} : (∀ c ∈ ls, isL c) → ds ≠ [] → (∀ c ∈ ds, isD c = true) → (∀ c, r.head? = some c → isD c = false) → Spl r ps → Spl (ls ++ (ds ++ r)) (ls :: ds :: ps)
  | sign {ls r : List Nat} {c : Nat} {ps : List (List Nat)} : (∀ c ∈ ls, isL c) → isD c = false → isS c = true → Spl r ps → Spl (ls ++ (c :: r)) (ls :: [c] :: ps)

theorem found_digits (t : Array Nat) {ls ds r : List Nat} {p : Nat} (hp : p ≤ t.size) (hbig : t.size < 4294967295) (h : t.toList.drop p = ls ++ (ds ++ r)) (hl : ∀ c ∈ ls, isL c) (hn : ds ≠ []) (hd : ∀ c ∈ ds, isD c = true)
    (hr : ∀ c, r.head? = some c → isD c = false) : Found (stepN (7 * ls.length + 10) (forSearch cdN t 1 p t.size false)) (p + ls.length) (p + ls.length + ds.length) := by
  have hsz := size_drop h hp
  obtain ⟨n, hn'⟩ : ∃ n, ds.length = n + 1 := ⟨ds.length - 1, by have := List.length_pos_iff.mpr hn; omega⟩
  have hsz' : t.size = p + (ls.length + (ds.length + r.length)) := by simpa using hsz
  obtain ⟨sn, h0⟩ := for_search t p (by omega)
  obtain ⟨f', a', sn', h1⟩ := search_letters t ls (ds ++ r) p true none none sn h hp hl
  rw [h0, stepN_add, h1, hn']
  have h2 : t.toList.drop (p + ls.length) = ds ++ r := by rw [← List.drop_drop, h]; simp
  refine search_digits t f' a' none sn' (p + ls.length) n (by omega) hbig (fun i hi => ?_) ?_
  · rw [getD_drop h2 i]
    refine hd _ ?_
    have hi' : i < ds.length := by omega
    rw [List.getD_eq_getElem?_getD, List.getElem?_append_left hi', List.getElem?_eq_getElem hi']
    exact List.getElem_mem hi'
  · cases r with
    | nil => left; simp at hsz'; omega
    | cons c r =>
      right
      rw [getD_drop h2 (n + 1), ← hn', List.getD_eq_getElem?_getD, List.getElem?_append_right (Nat.le_refl _)]
      simp
      exact hr c rfl

theorem found_sign (t : Array Nat) {ls r : List Nat} {c p : Nat} (hp : p ≤ t.size) (h : t.toList.drop p = ls ++ (c :: r)) (hl : ∀ c ∈ ls, isL c) (hd : isD c = false) (hs : isS c = true) :
    Found (stepN (7 * ls.length + 11) (forSearch cdN t 1 p t.size false)) (p + ls.length) (p + ls.length + 1) := by
  have hsz : t.size = p + (ls.length + (r.length + 1)) := by have := size_drop h hp; simpa using this
  obtain ⟨sn, h0⟩ := for_search t p (by omega)
  obtain ⟨f', a', sn', h1⟩ := search_letters t ls (c :: r) p true none none sn h hp hl
  rw [h0, stepN_add, h1]
  have h2 : t.toList.drop (p + ls.length) = c :: r := by rw [← List.drop_drop, h]; simp
  have hc : t.getD (p + ls.length) 0 = c := by have := getD_drop h2 0; simpa using this
  exact search_sign t f' a' none sn' (p + ls.length) (by omega) (by rw [hc]; exact hd) (by rw [hc]; exact hs)

theorem not_found (t : Array Nat) {ls : List Nat} {p : Nat} (hp : p ≤ t.size) (h : t.toList.drop p = ls) (hl : ∀ c ∈ ls, isL c) :
    ∃ o, (stepN (7 * ls.length + 8) (forSearch cdN t 1 p t.size false)).outcome = some o ∧ o = .failed := by
  have hsz := size_drop h hp
  cases ls with
  | nil =>
    have hp' : p = t.size := by simp at hsz; omega
    subst hp'
    refine ⟨.failed, ?_, rfl⟩
    have e : forSearch cdN t 1 t.size t.size false = (forSearch cdN t 1 t.size t.size false) := rfl
    have h1 : (decide (t.size > t.size) || decide (t.size - t.size < 1)) = true := by simp
    have h2 : ∃ m : M, forSearch cdN t 1 t.size t.size false = m.say false ∧ m.outcome = none ∧ m.frames = [] := by
      unfold forSearch
      rw [show header cdN = (1, 5) from rfl]
      exact ⟨_, if_pos h1, rfl, rfl⟩
    obtain ⟨m, e1, e2, e3⟩ := h2
    rw [e1]
    have e4 : (m.say false).step.outcome = some .failed := by
      unfold M.step
      have q1 : (m.say false).outcome = none := e2
      have q2 : (m.say false).frames = [] := e3
      have q3 : (m.say false).answer = some false := rfl
      rw [q1, q2, q3]; rfl
    show (stepN 7 (m.say false).step).outcome = _
    rw [stepN_done (by rw [e4]; rfl), e4]
  | cons c ls =>
    obtain ⟨sn, h0⟩ := for_search t p (by simp at hsz; omega)
    obtain ⟨f', a', sn', h1⟩ := search_letters t (c :: ls) [] p true none none sn (by simpa using h) hp hl
    rw [h0, stepN_add, h1, ← hsz]
    exact search_end t f' a' none sn'

end Mine
end

section
open PySem
set_option Elab.async false
set_option maxRecDepth 100000
namespace Mine
open PySem.Sre PySem.Builtin.Re

section
variable {prog : Program} {w : World} {A : Around} {E : Value → Shared → Prop} {s : Shared}

theorem drive_ok {Q : M → Shared → Prop} : ∀ (turns N : Nat) (m : M), (stepN N m).outcome.isSome = true → N ≤ 4 * turns → 0 < turns → Q (stepN N m) s → wpAny (model prog w) A (reDrive turns m) Q E s
  | 0, _, _, _, _, h0, _ => absurd h0 (Nat.lt_irrefl _)
  | turns + 1, N, m, ho, hN, _, hq => by
    unfold reDrive
    rw [show M.runFor reTurnSteps m = stepN 4 m from runFor_eq 4 m]
    by_cases h : (stepN 4 m).outcome.isSome = true
    · have e : stepN N m = stepN 4 m := by
        rcases Nat.le_total N 4 with hle | hle
        · obtain ⟨k, hk⟩ := Nat.le.dest hle
          rw [← hk, stepN_add, stepN_done ho]
        · obtain ⟨k, hk⟩ := Nat.le.dest hle
          rw [← hk, stepN_add, stepN_done h]
      simp only [h, if_true]
      rw [e] at hq
      exact wpAny_pure hq
    · have hgt : ¬ N ≤ 4 := fun hle => by
        obtain ⟨k, hk⟩ := Nat.le.dest hle
        rw [← hk, stepN_add, stepN_done ho] at h
        exact h ho
      obtain ⟨k, hk⟩ := Nat.le.dest (Nat.le_of_lt (Nat.lt_of_not_le hgt))
      rw [← hk, stepN_add] at ho hq
      simp only [h]
      refine wpAny_bind (wpAny_rule (drive_ok turns k (stepN 4 m) ho (by omega) (by omega) hq))

theorem run_end {Q : Option M → Shared → Prop} {N : Nat} {m : M} (ho : (stepN N m).outcome.isSome = true) (hN : N ≤ 2 ^ 64) (hq : ∀ m', m' = stepN N m → match m'.outcome with | some .matched => Q (some m') s | some .failed => Q none s | _ => False) :
    wpAny (model prog w) A (reRunToEnd m) Q E s := by
  unfold reRunToEnd
  refine wpAny_bind (drive_ok (2 ^ 64) N m ho (by omega) (by omega) ?_)
  refine wpAny_bind (wpAny_forIn_list _ (fun _ _ s' => s' = s) _ ?_ ?_ _ _ rfl)
  · rintro x rest b s' rfl
    by_cases h : (stepN N m).seen.has x = true
    · simp only [h, if_true]
      exact wpAny_bind (wpAny_rule (wpAny_pure rfl))
    · simp only [h]
      exact wpAny_pure rfl
  · rintro b s' rfl
    have := hq _ rfl
    generalize stepN N m = m' at *
    cases h : m'.outcome with
    | none => rw [h] at this; exact this.elim
    | some o =>
      rw [h] at this
      cases o with
      | matched => exact wpAny_pure this
      | failed => exact wpAny_pure this
      | stuck y => exact this.elim

def txtOf : Value → Option (List Nat)
  | .str y _ => some y.cps.toList
  | _ => none

theorem slice_ok {t : Array Nat} {p : Nat} {ls r : List Nat} {Q : Value → Shared → Prop} (hp : p ≤ t.size) (hbig : t.size < 4096) (h : t.toList.drop p = ls ++ r)
    (hQ : ∀ y k tk, y.cps.toList = ls → Q (.str y k) { s with toks := tk }) : wpAny (model prog w) A (reSlice t 0 p (p + ls.length)) Q E s := by
  have e : (t.extract p (p + ls.length)).toList = ls := by
    rw [Array.toList_extract]
    simp only [List.extract_eq_take_drop]
    rw [h]; simp
  show wpAny _ _ (mkStr ⟨t.extract p (p + ls.length)⟩) _ _ _
  refine wpAny_mkStr (hQ _ _ _ e) ?_
  show (t.extract p (p + ls.length)).size ≤ sizeLine
  rw [Array.size_extract, sizeLine_eq]; omega

theorem group_ok {tg : ReTarget} {m : M} {b : Nat} {ds r : List Nat} {Q : Value → Shared → Prop} (hk : tg.kind = 0) (hb : b ≤ tg.text.size) (hbig : tg.text.size < 4096) (h : tg.text.toList.drop b = ds ++ r)
    (hm : m.marks = #[some b, some (b + ds.length)]) (hl : m.lastmark = 1) (hQ : ∀ y k tk, y.cps.toList = ds → Q (.str y k) { s with toks := tk }) : wpAny (model prog w) A (reMachineGroup tg m 1 (pure Value.none)) Q E s := by
  unfold reMachineGroup
  rw [hl, hm, if_neg (by decide)]
  show wpAny _ _ (if b + ds.length < b then reWrongSpan else reSlice tg.text tg.kind b (b + ds.length)) _ _ _
  rw [if_neg (by omega), hk]
  exact slice_ok hb hbig h hQ

theorem split_meets {t : Array Nat} {tk : Tok} {pt : Str} {u v : Tok} {Q : Value → Shared → Prop} {ps : List (List Nat)} (hs : Spl t.toList ps) (hbig : t.size < 4096)
    (hre : s.heap.get? 57 = some { cls := .type "re.Pattern", data := .fields #[.str pt u, .int 32 v, .int 1 0, .none, .none, .ref 56, .int 0 0] })
    (hcd : s.heap.get? 56 = some { cls := .type "tuple", data := .seq reCode })
    (hQ : ∀ (us : List Value) (tk' : Nat), us.map txtOf = ps.map some →
      Q (.ref s.heap.objs.size) { s with heap := s.heap.push { cls := .type "list", data := .seq us.toArray }, toks := tk' }) (hlen : ps.length ≤ 4096) :
    wpAny (model prog w) A (Builtin.«re.Pattern.split» ⟨[.ref 57, .str ⟨t⟩ tk], []⟩) (fun fin s' => ∃ v, fin = .done (.ret v) ∧ Q v s') E s := by
  show wpAny _ _ (reNamed "re.Pattern.split" "split" ["string", "maxsplit"] 1 [.str ⟨t⟩ tk] [] >>= _) _ _ _
  refine wpAny_bind (wpAny_of_eq (a := [some (.str ⟨t⟩ tk), none]) rfl ?_)
  dsimp only
  refine wpAny_bind (wpAny_pure ?_)
  have htg : wpAny (model prog w) A (reWholeTarget (.ref 57) (.str ⟨t⟩ tk)) (fun tg s' => tg = { pattern := .ref 57, string := .str ⟨t⟩ tk, code := cdN, text := t, kind := 0, groups := 1, pos := 0, lim := t.size } ∧ s' = s) E s := by
    unfold reWholeTarget
    refine wpAny_bind (wpAny_fieldsOf hre rfl ?_)
    refine wpAny_bind (wpAny_of_eq (a := (t, 0)) rfl ?_)
    dsimp only
    refine wpAny_bind (wpAny_of_eq (a := ()) rfl ?_)
    unfold reRawItems
    refine wpAny_bind (wpAny_bind (wpAny_seqItems hcd rfl (wpAny_pure (wpAny_pure ⟨?_, rfl⟩))))
    have e : ((reCode.map reRawOf).map (·.toNat)) = cdN := by decide +kernel
    show ({ pattern := .ref 57, string := .str ⟨t⟩ tk, code := ((reCode.map reRawOf).map (·.toNat)), text := t, kind := 0, groups := 1, pos := 0, lim := t.size } : ReTarget) = _
    rw [e]
  refine wpAny_bind (wpAny_mono htg (fun tg s' h => ?_) fun _ _ x => x)
  obtain ⟨rfl, rfl⟩ := h
  have hb4 : t.size < 4294967295 := by omega
  refine wpAny_bind (wpAny_forIn_list _ (fun rest b s₁ => (∃ k, s₁ = { s' with toks := k }) ∧ ((b.2.2.2.2.2 = false ∧ b.2.1 = b.2.2.1 ∧ b.2.2.1 ≤ t.size ∧ b.2.2.2.1 = false ∧ (∃ ps', Spl (t.toList.drop b.2.2.1) ps' ∧ b.1.toList.map txtOf ++ ps'.map some = ps.map some) ∧ t.size - b.2.2.1 < rest.length) ∨
      (b.2.2.2.2.2 = true ∧ b.2.2.1 ≤ t.size ∧ b.1.toList.map txtOf ++ [some (t.toList.drop b.2.2.1)] = ps.map some))) _ ?_ ?_ _ _ ?_)
  · rintro x rest ⟨out, start, last, must, n, over⟩ s₁ ⟨⟨k, rfl⟩, h⟩
    dsimp only at h ⊢
    rcases h with ⟨rfl, rfl, hle, rfl, ⟨ps', hspl, hps⟩, hlt⟩ | ⟨rfl, hle, hps⟩
    · simp only [Bool.not_false, if_true]
      rw [if_neg (by simp)]
      generalize hdr : t.toList.drop start = l at hspl
      cases hspl with
      | done hl =>
        obtain ⟨o, ho, rfl⟩ := not_found t hle hdr hl
        have hsz := size_drop hdr hle
        refine wpAny_bind (run_end (N := 7 * l.length + 8) (by show (stepN _ (forSearch cdN t 1 start t.size false)).outcome.isSome = true; rw [ho]; rfl) (by omega) fun m' hm' => ?_)
        have hm : m' = stepN (7 * l.length + 8) (forSearch cdN t 1 start t.size false) := hm'
        rw [hm, ho]
        refine wpAny_pure ⟨⟨k, rfl⟩, .inr ⟨rfl, hle, ?_⟩⟩
        rw [hdr]; exact hps
      | @digits ls ds r ps'' hl hn hd hr hsp =>
        have hf := found_digits t hle hb4 hdr hl hn hd hr
        have hsz : t.size = start + (ls.length + (ds.length + r.length)) := by have := size_drop hdr hle; simpa using this
        obtain ⟨⟨o, ho, rfl⟩, hst, hhd, hmk, hlm⟩ := hf
        refine wpAny_bind (run_end (N := 7 * ls.length + 10) (by show (stepN _ (forSearch cdN t 1 start t.size false)).outcome.isSome = true; rw [ho]; rfl) (by omega) fun m' hm' => ?_)
        have hm : m' = stepN (7 * ls.length + 10) (forSearch cdN t 1 start t.size false) := hm'
        rw [← hm] at ho hst hhd hmk hlm
        rw [ho]
        dsimp only
        rw [hst]
        refine wpAny_bind (slice_ok hle hbig hdr fun y k₁ tk₁ hy => ?_)
        have hdr2 : t.toList.drop (start + ls.length) = ds ++ r := by rw [← List.drop_drop, hdr]; simp
        have hdr3 : t.toList.drop (start + ls.length + ds.length) = r := by rw [← List.drop_drop, hdr2]; simp
        show wpAny _ _ (forIn [0] _ _ >>= _) _ _ _
        rw [List.forIn_cons]
        refine wpAny_bind (wpAny_bind (wpAny_bind (group_ok (tg := { pattern := .ref 57, string := .str ⟨t⟩ tk, code := cdN, text := t, kind := 0, groups := 1, pos := 0, lim := t.size }) rfl (by show _ ≤ t.size; omega) hbig hdr2 hmk hlm fun y₂ k₂ tk₂ hy₂ => wpAny_pure ?_)))
        dsimp only
        rw [List.forIn_nil]
        refine wpAny_pure (wpAny_pure ⟨⟨tk₂, rfl⟩, .inl ⟨rfl, rfl, ?_, ?_, ⟨ps'', ?_, ?_⟩, ?_⟩⟩)
        · show m'.handed ≤ t.size
          rw [hhd]; omega
        · show (m'.handed == start + ls.length) = false
          rw [hhd]
          have := List.length_pos_iff.mpr hn
          simp; exact hn
        · show Spl (t.toList.drop m'.handed) ps''
          rw [hhd, hdr3]; exact hsp
        · rw [← hps]; simp [txtOf, hy, hy₂]
        · show t.size - m'.handed < rest.length
          rw [hhd]
          have := List.length_pos_iff.mpr hn
          simp at hlt
          omega
      | @sign ls r c ps'' hl hd hsg hsp =>
        have hf := found_sign t hle hdr hl hd hsg
        have hsz : t.size = start + (ls.length + (r.length + 1)) := by have := size_drop hdr hle; simpa using this
        obtain ⟨⟨o, ho, rfl⟩, hst, hhd, hmk, hlm⟩ := hf
        refine wpAny_bind (run_end (N := 7 * ls.length + 11) (by show (stepN _ (forSearch cdN t 1 start t.size false)).outcome.isSome = true; rw [ho]; rfl) (by omega) fun m' hm' => ?_)
        have hm : m' = stepN (7 * ls.length + 11) (forSearch cdN t 1 start t.size false) := hm'
        rw [← hm] at ho hst hhd hmk hlm
        rw [ho]
        dsimp only
        rw [hst]
        refine wpAny_bind (slice_ok hle hbig hdr fun y k₁ tk₁ hy => ?_)
        have hdr2 : t.toList.drop (start + ls.length) = [c] ++ r := by rw [← List.drop_drop, hdr]; simp
        have hdr3 : t.toList.drop (start + ls.length + 1) = r := by rw [← List.drop_drop, hdr2]; simp
        show wpAny _ _ (forIn [0] _ _ >>= _) _ _ _
        rw [List.forIn_cons]
        refine wpAny_bind (wpAny_bind (wpAny_bind (group_ok (tg := { pattern := .ref 57, string := .str ⟨t⟩ tk, code := cdN, text := t, kind := 0, groups := 1, pos := 0, lim := t.size }) rfl (by show _ ≤ t.size; omega) hbig hdr2 hmk hlm fun y₂ k₂ tk₂ hy₂ => wpAny_pure ?_)))
        dsimp only
        rw [List.forIn_nil]
        refine wpAny_pure (wpAny_pure ⟨⟨tk₂, rfl⟩, .inl ⟨rfl, rfl, ?_, ?_, ⟨ps'', ?_, ?_⟩, ?_⟩⟩)
        · show m'.handed ≤ t.size
          rw [hhd]; omega
        · show (m'.handed == start + ls.length) = false
          rw [hhd]; simp
        · show Spl (t.toList.drop m'.handed) ps''
          rw [hhd, hdr3]; exact hsp
        · rw [← hps]; simp [txtOf, hy, hy₂]
        · show t.size - m'.handed < rest.length
          rw [hhd]
          simp at hlt
          omega
    · simp only [Bool.not_true]
      exact wpAny_pure ⟨⟨k, rfl⟩, .inr ⟨rfl, hle, hps⟩⟩
  · rintro ⟨out, start, last, must, n, over⟩ s₁ ⟨⟨k, rfl⟩, h⟩
    dsimp only at h ⊢
    rcases h with ⟨_, _, _, _, _, hlt⟩ | ⟨rfl, hle, hps⟩
    · simp at hlt
    · simp only [Bool.not_true]
      have hsl := slice_ok (prog := prog) (w := w) (A := A) (E := E) (s := { s' with toks := k }) (r := []) (Q := fun v s₂ => ∃ y k tk, v = .str y k ∧ s₂ = { s' with toks := tk } ∧ y.cps.toList = t.toList.drop last) (p := last) hle hbig (List.append_nil _).symm fun y k₁ tk₁ hy => ⟨y, k₁, tk₁, rfl, rfl, hy⟩
      have e : last + (t.toList.drop last).length = t.size := by simp; omega
      rw [e] at hsl
      refine wpAny_bind (wpAny_mono hsl (fun v s₂ hv => ?_) fun _ _ x => x)
      obtain ⟨y, k₂, tk₂, rfl, rfl, hy⟩ := hv
      have hall : (out.push (.str y k₂)).toList.map txtOf = ps.map some := by rw [← hps]; simp [txtOf, hy]
      have hll : (out.push (.str y k₂)).toList.length = ps.length := by have := congrArg List.length hall; simpa using this
      refine wpAny_bind (wpAny_newList (wpAny_pure ⟨_, rfl, hQ _ tk₂ hall⟩) ?_)
      rw [hll, sizeLine_eq]; omega
  · refine ⟨⟨s'.toks, rfl⟩, .inl ⟨rfl, rfl, Nat.zero_le _, rfl, ⟨ps, hs, rfl⟩, ?_⟩⟩
    show t.size - 0 < (List.range (2 * t.size + 3)).length
    simp; omega
end
end Mine
end

section
open PySem PySem.W PyProof.Rows PySem.SeqAt PySem.Calls
set_option Elab.async false
set_option maxRecDepth 100000
namespace Mine
open Sem (wp)

/-! The library's rules speak of every stack that is like the claim's own. A refusal of int() looks whether the claim's caller lies on the stack, so these are the same rules for the stacks on which it does. -/

def ClB (Γ : PySem.Ctx) : Prop := ∃ x ∈ Γ.below, x.1.isCaller = true
def Cl (Γ : PySem.Ctx) : Prop := Γ.code.isCaller = true ∨ ClB Γ

def wpC {α : Type} (M : Model) (A : Around) (t : Sem α) (Q : α → Shared → Prop) (E : Value → Shared → Prop) (s : Shared) : Prop :=
  ∀ Γ p, Γ.In A → Cl Γ → wp M Γ t (fun a _ s' => Q a s') (fun e _ s' => E e s') p s
def codeC (M : Model) (A : Around) (c : Code) (R : Result → Shared → Prop) (s : Shared) : Prop :=
  ∀ Γ p, Γ.code = c → Γ.Below A → ClB Γ → wpCode M Γ R p s

section
variable {α β : Type} {M : Model} {A : Around} {E : Value → Shared → Prop} {s : Shared}

theorem wpC_of {t : Sem α} {Q : α → Shared → Prop} (h : wpAny M A t Q E s) : wpC M A t Q E s := fun Γ p hΓ _ => h Γ p hΓ
theorem codeC_of {c : Code} {R : Result → Shared → Prop} (h : codeAny M A c R s) : codeC M A c R s := fun Γ p hc hΓ _ => h Γ p hc hΓ
theorem wpC_pure {a : α} {Q : α → Shared → Prop} (h : Q a s) : wpC M A (pure a) Q E s := wpC_of (wpAny_pure h)
theorem wpC_mono {t : Sem α} {Q Q' : α → Shared → Prop} {E' : Value → Shared → Prop} (h : wpC M A t Q E s)
    (hQ : ∀ a s, Q a s → Q' a s) (hE : ∀ e s, E e s → E' e s) : wpC M A t Q' E' s :=
  fun Γ p hΓ hc => Sem.wp_mono M Γ t (fun a _ s => hQ a s) (fun e _ s => hE e s) p s (h Γ p hΓ hc)
theorem wpC_bind {m : Sem α} {f : α → Sem β} {Q : β → Shared → Prop} (h : wpC M A m (fun a s' => wpC M A (f a) Q E s') E s) :
    wpC M A (m >>= f) Q E s := fun Γ p hΓ hc => by
  rw [Sem.wp_bind']
  exact Sem.wp_mono M Γ m (fun a p' s' h' => h' Γ p' hΓ hc) (fun _ _ _ h' => h') p s (h Γ p hΓ hc)
/-- a first part that needs nothing -/
theorem wpC_then {m : Sem α} {f : α → Sem β} {Q : β → Shared → Prop} (h : wpAny M A m (fun a s' => wpC M A (f a) Q E s') E s) :
    wpC M A (m >>= f) Q E s := wpC_bind (wpC_of h)
theorem wpC_onRaise {m : Sem α} {k : Value → Sem Unit} {Q : α → Shared → Prop}
    (h : wpC M A m Q (fun e s' => wpC M A (k e) (fun _ s'' => E e s'') E s') s) : wpC M A (m.onRaise k) Q E s := fun Γ p hΓ hc => by
  rw [Sem.wp_onRaise]
  exact Sem.wp_mono M Γ m (fun _ _ _ h' => h') (fun e p' s' h' => h' Γ p' hΓ hc) p s (h Γ p hΓ hc)
theorem wpC_attempt {m : Sem α} {Q : Except Value α → Shared → Prop} (h : wpC M A m (fun a => Q (.ok a)) (fun e => Q (.error e)) s) :
    wpC M A m.attempt Q E s := fun Γ p hΓ hc => by rw [Sem.wp_attempt]; exact h Γ p hΓ hc
theorem wpC_holding {vs : List Value} {m : Sem α} {Q : α → Shared → Prop} (h : wpC M A m Q E s) : wpC M A (holding vs m) Q E s :=
  fun Γ p hΓ hc => by rw [Sem.wp_holding]; exact h Γ p hΓ hc
theorem wpC_of_eq {m : Sem α} {a : α} {Q : α → Shared → Prop} (e : m = pure a) (h : Q a s) : wpC M A m Q E s := wpC_of (wpAny_of_eq e h)

theorem Cl.enter {Γ : PySem.Ctx} (h : Cl Γ) (c : Code) (hd : Option Value) (p : Pos) : ClB (Γ.enter c hd p) := by
  rcases h with h | ⟨x, hx, h⟩
  · exact ⟨(Γ.code, p), List.mem_cons_self, h⟩
  · exact ⟨x, List.mem_cons_of_mem _ hx, h⟩
theorem codeC_mono {c : Code} {R R' : Result → Shared → Prop} (h : codeC M A c R s) (hR : ∀ r s, R r s → R' r s) : codeC M A c R' s :=
  fun Γ p hc hΓ hb => wpCode_mono hR (h Γ p hc hΓ hb)
theorem wpC_run {c : Code} {h : Option Value} {Q : Flow → Shared → Prop}
    (hc : codeC M (A.mark h) c (fun r s' => match r with | .ok f => Q f s' | .error e => E e s') s) (hnb : h ≠ some byPass := by intro x; cases x) :
    wpC M A (run c h) Q E s :=
  fun Γ p hΓ hl => by rw [Sem.wp_run]; exact hc _ p rfl (hΓ.enter c h p hnb) (hl.enter c h p)
theorem wpC_runValue {c : Code} {Q : Value → Shared → Prop}
    (hc : codeC M A c (fun r s' => match r with | .ok (.ret v) => Q v s' | .ok _ => False | .error e => E e s') s) :
    wpC M A (runValue c) Q E s := fun Γ p hΓ hl => by rw [Sem.wp_runValue]; exact hc _ p rfl (hΓ.enter c none p (by intro x; cases x)) (hl.enter c none p)
theorem wpC_call {f : Value} {pos : List Value} {kw : List (Str × Value)} {Q : Value → Shared → Prop}
    (hc : codeC M A (.call f ⟨pos, kw⟩) (fun r s' => match r with | .ok (.ret v) => Q v s' | .ok _ => False | .error e => E e s') s) :
    wpC M A (call f pos kw) Q E s := wpC_runValue hc
theorem codeC_of_tree {c : Code} {R : Result → Shared → Prop}
    (h : wpC M (A.under c) (M.den c) (fun fin s' => match fin with | .done f => R (.ok f) s' | .again c' => c'.quiet = true ∧ codeC M A c' R s')
      (fun e s' => R (.error e) s') s) : codeC M A c R s := fun Γ p hc hΓ hb => by
  rw [wpCode_iff_wp, hc]
  refine Sem.wp_mono M Γ _ (fun fin p' s' h' => ?_) (fun _ _ _ h' => h') p s (h Γ p (hc ▸ hΓ.in) (.inr hb))
  cases fin with
  | done f => exact h'
  | again c' => exact ⟨h'.1, h'.2 (Γ.goto c') p' rfl (hΓ.goto c') hb⟩
theorem codeC_loop' {c : Code} {R : Result → Shared → Prop} (hq : c.quiet = true) (I : Nat → Shared → Prop)
    (turn : ∀ n s, I n s → wpC M (A.under c) (M.den c)
      (fun fin s' => match fin with
        | .done f => R (.ok f) s'
        | .again c' => (c' = c ∧ ∃ m, m < n ∧ I m s') ∨ (c'.quiet = true ∧ codeC M A c' R s')) (fun e s' => R (.error e) s') s)
    (n : Nat) (h : I n s) : codeC M A c R s := by
  induction n using Nat.strongRecOn generalizing s with
  | ind n ih =>
    refine codeC_of_tree (wpC_mono (turn n s h) (fun fin s' hf => ?_) fun _ _ h' => h')
    cases fin with
    | done f => exact hf
    | again c' =>
      rcases hf with ⟨rfl, m, hm, hI⟩ | hf
      · exact ⟨hq, ih m hm hI⟩
      · exact hf
theorem wpC_runOwn {c : Code} {h : Option Value} {Q : Flow → Shared → Prop} {env : Env}
    (hc : codeC M (A.mark h) c (fun r s' => match r with | .ok f => Q f s' | .error e => cameBackBy M A env E e s') s) (hnb : h ≠ some byPass := by intro x; cases x) :
    wpC M A (runOwn c env h) Q E s := by
  unfold runOwn
  exact wpC_onRaise (wpC_mono (wpC_run (E := cameBackBy M A env E) hc hnb) (fun _ _ x => x) fun _ _ x => wpC_of x)
theorem wpC_noted {env : Env} {m : Sem α} {Q : α → Shared → Prop} (h : wpC M A m Q (notedBy M A env E) s) : wpC M A (m.onRaise fun x => do noteFrame x env; theTreesLotGoes x) Q E s :=
  wpC_onRaise (wpC_mono h (fun _ _ q => q) fun _ _ hx => wpC_of (wpAny_bind (wpAny_mono hx (fun _ _ e => wpAny_theTreesLotGoes e) fun _ _ e => e)))
end

section
variable {prog : Program} {w : World} {A : Around} {E : Value → Shared → Prop} {s : Shared} {env : Env} {R : Result → Shared → Prop}

theorem codeC_func {body : List Stmt} (h : wpC (model prog w) (A.deeper env) (execs body env) (fun f s' => R (.ok (.ret (match f with | .ret v => v | _ => .none))) s') (fun _ _ => False) s) :
    codeC (model prog w) A (.func body env) R s := by
  refine codeC_of_tree ?_
  show wpC _ (A.deeper env) (do point; match ← (execs body env).onRaise (leaving env) with | .ret v => ret v | _ => ret .none) _ _ s
  refine wpC_then (wpAny_point (wpC_bind (wpC_onRaise (wpC_mono h (fun f s' h' => ?_) fun _ _ h' => h'.elim))))
  cases f <;> exact wpC_pure h'
theorem codeC_call_function {a : Addr} {args : Args} {o : Obj} {fd : FuncData} {body : List Stmt} (hroom : A.depth < recursionLimit)
    (ho : s.heap.get? a = some o)
    (hd' : o.data = .func fd) (hco : fd.scope.isCoroutine = false) (hgen : fd.scope.isGenerator = false) (hbody : fd.body = .stmts body) (hcd : s.heap.CodeRec fd.code fd.qualname)
    (h : wpAny (model prog w) A.in1 (bindArgs fd args) (fun binds s₁ =>
      wpAny (model prog w) A.in1 (newFunctionEnv fd.scope fd.globals fd.closure binds (fd.qualname ++ ".<locals>.") (some a) fd.code none fd.builtins)
        (fun env s₂ => s₂.heap.NoLimit ∧ codeC (model prog w) A (.func body env) R s₂) (fun e s' => R (.error e) s') s₁) (fun e s' => R (.error e) s') s) :
    codeC (model prog w) A (.call (.ref a) args) R s := by
  refine codeC_of_tree ?_
  show wpC _ A.in1 (callAny (.ref a) args) _ _ s
  simp only [callAny]
  refine wpC_then (wpAny_load ho ?_)
  obtain ⟨c, oc, vs, tq, hc, hoc, hdc, hq⟩ := hcd
  simp only [hd', callFunction, hco, hgen, hbody, hc]
  rw [hc] at h
  refine wpC_then (m := field (.ref c) 1) (wpAny_field hoc hdc hq (wpC_then (wpAny_pure ?_)))
  exact wpC_then (wpAny_mono h (fun binds s₁ h₁ => wpC_then (wpAny_mono h₁ (fun env s₂ h₂ => wpC_then (wpAny_enterFrame h₂.1 hroom
    (wpC_pure (And.intro rfl h₂.2)))) fun _ _ h' => h')) fun _ _ h' => h')

theorem callC_plain {name : Str} {params : Arguments} {body : List Stmt} {scope : Scope}
    {pm cd doc : Value} {a : Addr} {o : Obj} {args : List Value} {binds : List (Str × Value)}
    (hroom : A.depth < recursionLimit) (ho : s.heap.get? a = some o) (hdata : o.data = .func (Calls.docDef name params body scope pm cd doc)) (hlim : s.heap.NoLimit) (hcd : s.heap.CodeRec cd name)
    (hbind : bindArgs (Calls.docDef name params body scope pm cd doc) ⟨args, []⟩ = pure binds)
    (hloc : ∀ x ∈ binds, scope.names.lookup x.1 = some .local)
    (h : ∀ h₁, Fr s.heap s.heap.objs.size h₁ (fun x => binds.reverse.lookup x) → h₁.objs.size = s.heap.objs.size + 1 →
      wpC (model prog w) (A.deeper (envOf name scope s.heap.objs.size a cd)) (execs body (envOf name scope s.heap.objs.size a cd))
        (fun f s' => R (.ok (.ret (match f with | .ret v => v | _ => .none))) s') (fun _ _ => False)
        { s with heap := h₁, toks := s.toks + binds.length })
    (hco : scope.isCoroutine = false := by rfl) (hgen : scope.isGenerator = false := by rfl) (hk : scope.kind = .function := by rfl)
    (hcell : ∀ x ∈ scope.names, x.2 ≠ .cell := by decide) :
    codeC (model prog w) A (.call (.ref a) ⟨args, []⟩) R s := by
  refine codeC_call_function hroom ho hdata hco hgen rfl hcd ?_
  rw [hbind]
  refine wpAny_pure (wpAny_newFunctionEnv hcell hloc (fun h₁ hns hsb => ⟨hlim.fresh _ hsb, ?_⟩) hk)
  show codeC _ _ (.func body (envOf name scope s.heap.objs.size a cd)) _ _
  exact codeC_func (h h₁ ⟨hns, fun b o e => hsb.extBut b o (Nat.ne_of_lt (Heap.lt_size e)) (Heap.get?_push_of_some _ e), Nat.le_refl _⟩ (by rw [hsb.1, Heap.size_push]))

theorem wpC_execs_cons {st : Stmt} {rest : List Stmt} {Q : Flow → Shared → Prop}
    (h : wpC (model prog w) A (exec st env) (fun f s' => match f with | .next => wpC (model prog w) A (execs rest env) Q E s' | f => Q f s') E s) :
    wpC (model prog w) A (execs (st :: rest) env) Q E s := by
  rw [execs_cons]
  refine wpC_bind (wpC_mono h (fun f s' h' => ?_) fun _ _ x => x)
  cases f <;> first | exact h' | exact wpC_pure h'
/-- a statement that needs nothing -/
theorem wpC_stmt {st : Stmt} {rest : List Stmt} {Q : Flow → Shared → Prop}
    (h : wpAny (model prog w) A (exec st env) (fun f s' => match f with | .next => wpC (model prog w) A (execs rest env) Q E s' | f => Q f s') E s) :
    wpC (model prog w) A (execs (st :: rest) env) Q E s := wpC_execs_cons (wpC_of h)
theorem wpC_If {test : Expr} {body orelse : List Stmt} {pos : Pos} {Q : Flow → Shared → Prop}
    (h : wpAny (model prog w) A (isTrue test env (eval test env)) (fun b s₂ => if b then wpC (model prog w) A (execs body env) Q E s₂ else wpC (model prog w) A (execs orelse env) Q E s₂) E s) :
    wpC (model prog w) A (exec (.If test body orelse pos) env) Q E s := by
  rw [exec_If]
  refine wpC_then (wpAny_standAt (wpC_then (wpAny_mono h (fun b s₂ h₂ => ?_) fun _ _ x => x)))
  cases b <;> exact h₂
theorem wpC_For {target iter : Expr} {body orelse : List Stmt} {pos : Pos} {Q : Flow → Shared → Prop}
    (h : wpAny (model prog w) A (eval iter env) (fun x s₁ => wpAny (model prog w) A (pyIter x) (fun it s₂ =>
      codeC (model prog w) A (.forLoop target it body orelse env) (fun r s' => match r with | .ok f => Q f s' | .error e => cameBackBy (model prog w) A env E e s') s₂) E s₁) E s)
    (hs : ∀ x, foldedSetIterable iter env x = pure x := by intro _; rfl) :
    wpC (model prog w) A (exec (.For target iter body orelse pos) env) Q E s := by
  rw [exec_For]
  exact wpC_then (wpAny_standAt (wpC_then (wpAny_mono h (fun x s₁ h₁ => wpC_bind (wpC_of_eq (hs x) (wpC_then (wpAny_standAt (wpC_then (wpAny_holding
    (wpAny_mono h₁ (fun it s₂ h₂ => wpC_runOwn h₂) fun _ _ h' => h'))))))) fun _ _ h' => h')))
theorem codeC_forLoop_any {target : Expr} {it : Value} {body orelse : List Stmt} (I : Nat → Shared → Prop)
    (turn : ∀ n s, I n s → ∀ E' : Value → Shared → Prop, wpAny (model prog w) A (pyNext it) (fun r s₁ => match r with
      | none => wpC (model prog w) A (execs orelse env) (fun f s₃ => R (.ok f) s₃) (fun _ _ => False) s₁
      | some v => wpAny (model prog w) A (letOwnedTupleGo target it v) (fun _ s₁' =>
          wpAny (model prog w) A (assign target env v) (fun _ s₂ => wpC (model prog w) A (execs body env) (fun f s₃ => match f with
            | .next | .cont => ∃ m, m < n ∧ I m s₃
            | .brk => R (.ok .next) s₃
            | .ret v => R (.ok (.ret v)) s₃) (fun _ _ => False) s₂) E' s₁') E' s₁) E' s)
    (n : Nat) (h : I n s) : codeC (model prog w) A (.forLoop target it body orelse env) R s := by
  refine codeC_loop' rfl I (fun n s hI => ?_) n h
  show wpC _ A ((forTurn target it body orelse env).onRaise (fun x => do noteFrame x env; theTreesLotGoes x)) _ _ s
  refine wpC_noted ?_
  simp only [forTurn]
  refine wpC_then (wpAny_standAt (wpC_then (wpAny_onRaise (wpAny_mono (turn n s hI _) (fun r s₁ h₁ => ?_) fun _ _ h' => wpAny_standAt h'))))
  cases r with
  | none =>
    refine wpC_pure (.inr ⟨rfl, codeC_of_tree ?_⟩)
    show wpC _ _ (do return Fin.done (← (execs orelse env).onRaise (fun x => do noteFrame x env; theTreesLotGoes x))) _ _ s₁
    exact wpC_bind (wpC_noted (wpC_mono h₁ (fun f s' h' => wpC_pure h') fun _ _ h' => h'.elim))
  | some v =>
    refine wpC_then (wpAny_mono h₁ (fun _ s₁' h₁' => ?_) fun _ _ h' => h')
    refine wpC_then (wpAny_mono h₁' (fun _ s₂ h₂ => wpC_bind (wpC_mono h₂ (fun f s₃ h₃ => ?_) fun _ _ h' => h'.elim)) fun _ _ h' => h')
    cases f with
    | next => exact wpC_pure (.inl ⟨rfl, h₃⟩)
    | cont => exact wpC_pure (.inl ⟨rfl, h₃⟩)
    | brk => exact wpC_pure h₃
    | ret v => exact wpC_pure h₃
theorem wpC_Assign_Name {x : Str} {pos' pos : Pos} {value : Expr} {Q : Flow → Shared → Prop}
    (h : wpC (model prog w) A (eval value env) (fun v s₁ => wpAny (model prog w) A (storeName env x v) (fun _ => Q .next) E s₁) E s)
    (hs : swapsWith value (some (.Name x pos')) pos.line env = pure false := by rfl) :
    wpC (model prog w) A (exec (.Assign [.Name x pos'] value pos) env) Q E s := by
  rw [exec_Assign_Name env x pos' value pos hs]
  refine wpC_then (wpAny_standAt (wpC_bind (wpC_mono h (fun v s₁ h₁ => wpC_then (wpAny_standAt (wpC_of ?_))) fun _ _ x => x)))
  refine wpAny_bind (wpAny_bindName ?_)
  exact wpAny_mono h₁ (fun _ _ x => wpAny_pure x) fun _ _ x => x

theorem wpC_Call {func : Expr} {args : List Expr} {pos : Pos} {Q : Value → Shared → Prop}
    (h : wpAny (model prog w) A (eval func env) (fun f s₁ => wpC (model prog w) A (callWith pos f [] (backTo pos (starEach args env)) []) Q E s₁) E s)
    (he : eval (.Call func args [] pos) env = (do callWith pos (← eval func env) [] (backTo pos (starEach args env)) (backToKw pos (keywordEach [] env))) := by rfl) :
    wpC (model prog w) A (eval (.Call func args [] pos) env) Q E s := by
  rw [he]; exact wpC_then h
theorem callWithC_type {pos : Pos} {T : String} {e : Expr} {rest : List Expr} {Q : Value → Shared → Prop}
    (h : wpAny (model prog w) A (spliced (backTo pos (starEach (e :: rest) env))) (fun vs s₁ => wpC (model prog w) A (call (.type T) vs) Q E s₁) E s)
    (he : starEach (e :: rest) env = (false, eval e env) :: starEach rest env := by rfl)
    (hplain : (backTo pos (starEach rest env)).any (·.1) = false := by rfl) :
    wpC (model prog w) A (callWith pos (.type T) [] (backTo pos (starEach (e :: rest) env)) []) Q E s := by
  rw [he] at h ⊢
  have hpl : ((backTo pos ((false, eval e env) :: starEach rest env)).any (·.1)) = false := by show (false || (backTo pos (starEach rest env)).any (·.1)) = false; rw [hplain]; rfl
  have h' : wpAny (model prog w) A (evalArgs (.type T) true (backTo pos ((false, eval e env) :: starEach rest env)) []) (fun a s₁ => wpC (model prog w) A (call (.type T) ([] ++ a.pos) a.kw) Q E s₁) E s := evalArgs_plain h
  unfold callWith
  refine wpC_then (wpAny_holding (wpAny_mono h' (fun a s₁ h₁ => wpC_then (wpAny_standAt ?_)) fun _ _ x => x))
  simp only [hpl, List.any_nil, Bool.or_false]
  refine wpC_then (wpAny_pure ?_)
  exact wpC_bind (wpC_mono h₁ (fun r s₂ hr => wpC_of (wpAny_bind (wpAny_holding (wpAny_point (wpAny_pure hr))))) fun _ _ x => x)
theorem callWithC_def_aux : True := trivial
theorem wpC_keep {α : Type} {vs : List Value} {m : Sem α} {Q : α → Shared → Prop} (h : wpC (model prog w) A m Q E s) : wpC (model prog w) A (m.keep vs) Q E s :=
  fun Γ p hΓ hc => by rw [Sem.wp_keep]; exact h Γ p hΓ hc

theorem callWithC_fn1 {i : Nat} {a : Addr} {e : Expr} {pos : Pos} {Q : Value → Shared → Prop} (hf : FnAt s.heap i a)
    (h : wpAny (model prog w) A (eval e env) (fun v s₁ => s₁.heap.get? a = s.heap.get? a ∧ wpC (model prog w) A (call (.ref a) [v]) Q E s₁) E s)
    (he : starEach [e] env = [(false, eval e env)] := by rfl) :
    wpC (model prog w) A (callWith pos (.ref a) [] (backTo pos (starEach [e] env)) []) Q E s := by
  obtain ⟨o, pm, k, ho, _, hd, _⟩ := hf
  rw [he]
  have h0 : wpAny (model prog w) A (spliced (backTo pos [(false, eval e env)])) (fun vs s₁ => ((s₁.heap.get? a = some o ∧ o.data = .func (Calls.docDef (fN i) (fA i) (fB i) (fS i) pm (.ref k) .none)) ∧ wpC (model prog w) A (call (.ref a) ([] ++ vs)) Q E s₁)) E s :=
    spliced_cons (wpAny_mono h (fun v s₁ h₁ => spliced_nil ⟨⟨h₁.1.trans ho, hd⟩, h₁.2⟩) fun _ _ x => x)
  have h' : wpAny (model prog w) A (evalArgs (.ref a) true (backTo pos [(false, eval e env)]) []) (fun x s₁ => ((s₁.heap.get? a = some o ∧ o.data = .func (Calls.docDef (fN i) (fA i) (fB i) (fS i) pm (.ref k) .none)) ∧ wpC (model prog w) A (call (.ref a) ([] ++ x.pos) x.kw) Q E s₁)) E s := evalArgs_plain h0
  unfold callWith
  refine wpC_then (wpAny_holding (wpAny_mono h' (fun x s₁ h₁ => wpC_then (wpAny_standAt ?_)) fun _ _ x => x))
  have tail : ∀ {t : Sem Value}, wpC (model prog w) A t Q E s₁ → wpC (model prog w) A (t >>= fun r => holding [r] point >>= fun _ => pure r) Q E s₁ :=
    fun ht => wpC_bind (wpC_mono ht (fun r s₂ hr => wpC_of (wpAny_bind (wpAny_holding (wpAny_point (wpAny_pure hr))))) fun _ _ x => x)
  have hs : ((backTo pos [(false, eval e env)]).any (·.1)) = false := rfl
  simp only [hs, List.any_nil, Bool.or_false]
  refine wpC_then (m := keeperOf (.ref a)) ?_
  unfold keeperOf
  refine wpAny_bind (wpAny_load h₁.1.1 ?_)
  rw [h₁.1.2]
  refine wpAny_pure ?_
  first
    | exact tail h₁.2
    | exact tail (by unfold callMarked; exact wpC_keep h₁.2)
    | (split <;> first | exact tail h₁.2 | exact tail (by unfold callMarked; exact wpC_keep h₁.2))

theorem wpC_tryStmt {body orelse : Sem Flow} {h₀ : ExceptHandler} {hs : List ExceptHandler} {Q : Flow → Shared → Prop}
    (h : wpC (model prog w) A body (fun f s₁ => match f with | .next => wpC (model prog w) A orelse Q E s₁ | f => Q f s₁)
      (fun e s₁ => wpAny (model prog w) A (noteFrame e env) (fun _ s₂ => wpAny (model prog w) A (setFlight e none) (fun _ s₃ => wpC (model prog w) A (handleBy e env (h₀ :: hs)) Q E s₃) E s₂) E s₁) s) :
    wpC (model prog w) A (tryStmt false body (h₀ :: hs) orelse [] env) Q E s := by
  unfold tryStmt
  simp only [List.isEmpty_nil, if_true, List.isEmpty_cons, Bool.false_and, Bool.false_eq_true, if_false]
  refine wpC_bind (wpC_attempt (wpC_mono h (fun f s₁ h₁ => ?_) fun e s₁ h₁ => ?_))
  · cases f <;> first | exact h₁ | exact wpC_pure h₁
  · exact wpC_then (wpAny_mono h₁ (fun _ _ h₂ => wpC_then h₂) fun _ _ x => x)
end
end Mine
end

section
open PySem PySem.W PyProof.Rows PySem.SeqAt PySem.Calls PySem.NumText
set_option Elab.async false
set_option maxRecDepth 100000
namespace Mine
open Sem (wp)

section
variable {prog : Program} {w : World} {A : Around} {E : Value → Shared → Prop} {s : Shared} {env : Env} {R : Result → Shared → Prop}

theorem codeC_builtin {id : String} {args : Args} {b : Builtin} (hb : entryFor table id = some b)
    (h : wpC (model prog w) (A.under (.builtin id args)) (b args)
      (fun fin s' => match fin with | .done f => R (.ok f) s' | .again c' => c'.quiet = true ∧ codeC (model prog w) A c' R s') (fun e s' => R (.error e) s') s) :
    codeC (model prog w) A (.builtin id args) R s := by
  refine codeC_of_tree ?_
  show wpC _ _ (match entryFor table id with | some b => b args | none => unsupported ((withoutEnding? id "#data").getD id)) _ _ s
  rw [hb]; exact h

theorem type_int_tree (x y : Value) : Builtin.«type.__call__» ⟨[.type "int", x, y], []⟩ = (do
    let obj ← holding [.builtin "int.__new__"] (call (.builtin "int.__new__") [.type "int", x, y])
    if !(← isInstance obj (.type "int")) then rule "type.call.new-gave-other-type"; return ← ret obj
    match ← holding [obj] (callSpecial? obj "__init__" [x, y] []) with
    | none => ret obj
    | some r =>
      if r != .none then
        rule "type.call.init-returned-value"
        raiseError "TypeError" s!"__init__() should return None, not '{← typeNameOf r}'"
      ret obj) := by
  kernel_rfl

def badWords : List Str := [Str.ofString "dev", Str.ofString "a", Str.ofString "b", Str.ofString "rc", Str.ofString "pl"]
def badMsg (base : Nat) (shown : Str) : Str := (((s!"invalid literal for int() with base {base}: " : String) ++ ⟨shown.cps.extract 0 200⟩ : Str))
def badTree (x : Str) (u : Tok) : Sem Value := do
  rule "int.__new__.invalid-literal"
  let shown ← pyRepr (.str x u)
  let refusal ← newExc (.type "ValueError") [← mkStr (badMsg 10 shown)]
  markTheRefusal ["int.__new__"] refusal
  (raiseNew refusal : Sem Value)
theorem int_bad_a1 (u : Tok) : (int_private% "intFromText") (.str (Str.ofString "dev") u) [100, 101, 118] 10 = badTree (Str.ofString "dev") u := by kernel_rfl
theorem int_bad_b1 (u v : Tok) : Builtin.«int.__new__» ⟨[.type "int", .str (Str.ofString "dev") u, .int 10 v], []⟩ = ((int_private% "intFromText") (.str (Str.ofString "dev") u) [100, 101, 118] 10 >>= fun v => ret v) := by kernel_rfl
theorem int_bad_a2 (u : Tok) : (int_private% "intFromText") (.str (Str.ofString "a") u) [97] 10 = badTree (Str.ofString "a") u := by kernel_rfl
theorem int_bad_b2 (u v : Tok) : Builtin.«int.__new__» ⟨[.type "int", .str (Str.ofString "a") u, .int 10 v], []⟩ = ((int_private% "intFromText") (.str (Str.ofString "a") u) [97] 10 >>= fun v => ret v) := by kernel_rfl
theorem int_bad_a3 (u : Tok) : (int_private% "intFromText") (.str (Str.ofString "b") u) [98] 10 = badTree (Str.ofString "b") u := by kernel_rfl
theorem int_bad_b3 (u v : Tok) : Builtin.«int.__new__» ⟨[.type "int", .str (Str.ofString "b") u, .int 10 v], []⟩ = ((int_private% "intFromText") (.str (Str.ofString "b") u) [98] 10 >>= fun v => ret v) := by kernel_rfl
theorem int_bad_a4 (u : Tok) : (int_private% "intFromText") (.str (Str.ofString "rc") u) [114, 99] 10 = badTree (Str.ofString "rc") u := by kernel_rfl
theorem int_bad_b4 (u v : Tok) : Builtin.«int.__new__» ⟨[.type "int", .str (Str.ofString "rc") u, .int 10 v], []⟩ = ((int_private% "intFromText") (.str (Str.ofString "rc") u) [114, 99] 10 >>= fun v => ret v) := by kernel_rfl
theorem int_bad_a5 (u : Tok) : (int_private% "intFromText") (.str (Str.ofString "pl") u) [112, 108] 10 = badTree (Str.ofString "pl") u := by kernel_rfl
theorem int_bad_b5 (u v : Tok) : Builtin.«int.__new__» ⟨[.type "int", .str (Str.ofString "pl") u, .int 10 v], []⟩ = ((int_private% "intFromText") (.str (Str.ofString "pl") u) [112, 108] 10 >>= fun v => ret v) := by kernel_rfl
theorem int_bad_tree {x : Str} (hx : x ∈ badWords) (u v : Tok) : Builtin.«int.__new__» ⟨[.type "int", .str x u, .int 10 v], []⟩ = (badTree x u >>= fun v => ret v) := by
  simp only [badWords, List.mem_cons, List.not_mem_nil, or_false] at hx
  rcases hx with rfl | rfl | rfl | rfl | rfl
  · rw [int_bad_b1, int_bad_a1]
  · rw [int_bad_b2, int_bad_a2]
  · rw [int_bad_b3, int_bad_a3]
  · rw [int_bad_b4, int_bad_a4]
  · rw [int_bad_b5, int_bad_a5]

end
end Mine
end

section
open PySem PySem.W PyProof.Rows PySem.SeqAt PySem.Calls PySem.NumText
set_option Elab.async false
set_option maxRecDepth 100000
namespace Mine
open Sem (wp)

section
variable {prog : Program} {w : World} {A : Around} {E : Value → Shared → Prop} {s : Shared} {env : Env} {R : Result → Shared → Prop}

theorem wpC_stack {Q : List (Code × Pos) → Shared → Prop} (h : ∀ st : List (Code × Pos), (∃ x ∈ st, x.1.isCaller = true) → Q st s) : wpC (model prog w) A stack Q E s := fun Γ p hΓ hc => by
  show Q ((Γ.code, p) :: Γ.below) s
  refine h _ ?_
  rcases hc with hc | ⟨x, hx, hc⟩
  · exact ⟨_, List.mem_cons_self, hc⟩
  · exact ⟨x, List.mem_cons_of_mem _ hx, hc⟩

/-- a stack with the caller on it: no mark is laid -/
theorem mark_none {own : List String} {e : Value} {Q : Unit → Shared → Prop} (h : Q () s) : wpC (model prog w) A (markTheRefusal own e) Q E s := by
  unfold markTheRefusal
  refine wpC_bind (wpC_stack fun st hx => ?_)
  have hf : pythonCodeMadeTheCall own (st.map (·.1)) = false := by
    obtain ⟨x, hx, hc⟩ := hx
    have hany : (st.map (·.1)).any Code.isCaller = true := List.any_eq_true.mpr ⟨x.1, List.mem_map_of_mem hx, hc⟩
    unfold pythonCodeMadeTheCall
    show ((!((st.map (·.1)).any Code.isCaller) && _) && _) = false
    rw [hany]; rfl
  rw [hf]
  exact wpC_pure h

theorem new_of_made {h h' : Heap} {e : Addr} {cls : String} {args : List Value} (m : Heap.MadeExc h h' e cls args) : Heap.NewExc h h' e cls := by
  obtain ⟨k, n, t, e1, e2, e3⟩ := m
  exact ⟨k, n, _, .ref t, e1, rfl, rfl⟩

theorem msg_len (shown : Str) : (badMsg 10 shown).length ≤ sizeLine := by
  unfold badMsg
  rw [Str.length_append]
  have h1 : (((s!"invalid literal for int() with base {10}: " : String) : Str)).length ≤ 100 := by decide +kernel
  have h2 : (⟨shown.cps.extract 0 200⟩ : Str).length ≤ 200 := by
    show (shown.cps.extract 0 200).size ≤ 200
    rw [Array.size_extract]; omega
  rw [sizeLine_eq]
  omega

theorem repr_len {x : Str} (hx : x ∈ badWords) : (reprText x).length ≤ sizeLine := by
  simp only [badWords, List.mem_cons, List.not_mem_nil, or_false] at hx
  rw [sizeLine_eq]
  rcases hx with rfl | rfl | rfl | rfl | rfl <;> decide +kernel

theorem bad_tree {x : Str} {u : Tok} {Q : Value → Shared → Prop} (hx : x ∈ badWords) (hh : A.handled = none)
    (h : ∀ h' tk e, Heap.NewExc s.heap h' e "ValueError" → E (.ref e) { s with heap := h', toks := tk }) : wpC (model prog w) A (badTree x u) Q E s := by
  unfold badTree
  refine wpC_then (wpAny_rule (wpC_then (wpAny_pyRepr_str (wpC_then (wpAny_mkStr (wpC_then (wpAny_newExc_plain plainExc_ValueError fun h' e hm => ?_)) (msg_len _))) (repr_len hx))))
  exact wpC_bind (mark_none (wpC_of (wpAny_raiseNew_none hh (h _ _ _ (new_of_made hm)))))

theorem call_bad {x : Str} {u v : Tok} {Q : Value → Shared → Prop} (hx : x ∈ badWords) (hh : A.handled = none)
    (h : ∀ h' tk e, Heap.NewExc s.heap h' e "ValueError" → E (.ref e) { s with heap := h', toks := tk }) : wpC (model prog w) A (call (.type "int") [.str x u, .int 10 v]) Q E s := by
  refine wpC_call (codeC_of_tree ?_)
  show wpC _ _ (callAny (.type "int") _) _ _ _
  refine wpC_pure ⟨Code.quiet_builtin _ (by decide +kernel), codeC_builtin F.entry_type_call ?_⟩
  rw [Around.under_plain (weight_type_call_type "int" [.str x u, .int 10 v] []) (units_type_call_type "int" [.str x u, .int 10 v] []), type_int_tree]
  refine wpC_bind (wpC_holding (wpC_call (codeC_of_tree ?_)))
  show wpC _ A.in1.in1 (do checkBuiltinCall "int.__new__" ⟨[.type "int", .str x u, .int 10 v], []⟩; again (.builtin "int.__new__" ⟨[.type "int", .str x u, .int 10 v], []⟩)) _ _ s
  refine wpC_bind (wpC_of_eq (a := ()) (by kernel_rfl) (wpC_pure ⟨plainId_quiet (by decide +kernel) _, codeC_builtin F.entry_int_new ?_⟩))
  rw [Around.under_plainId (by decide +kernel) _, int_bad_tree hx]
  exact wpC_bind (bad_tree hx hh h)
end
end Mine
end

section
open PySem PySem.W PyProof.Rows PySem.SeqAt PySem.Calls PySem.NumText
set_option Elab.async false
set_option maxRecDepth 100000
namespace Mine

theorem typeCall_int_2 (a b : Value) : checkTypeCall "int" ⟨[a, b], []⟩ = pure () := by kernel_rfl
theorem newCall_int_2 (a b : Value) : checkBuiltinCall "int.__new__" ⟨[.type "int", a, b], []⟩ = pure () := by kernel_rfl

set_option maxHeartbeats 4000000 in
theorem gives_text2 {x : PySem.Str} {u v : Tok} {n : Int} (hl : x.length ≤ 640) (hn : PySem.intText? x = some n) : Gives (Builtin.«int.__new__» ⟨[.type "int", .str x u, .int 10 v], []⟩) (.int n) :=
  .of_wp fun M A E s Q h => by
    obtain ⟨hp, g, d, tk, os⟩ := s
    have f1 := F.conv_sub_int
    have f2 := F.madeHere_int
    have f3 := KIN.str_int
    have f4 := KIN.str_idx
    have f5 := KIN.str_trunc
    have f6 : typeOf (.str x u) = pure (.type "str") := rfl
    have hs : (numSeenOf x).length ≤ 640 := Nat.le_trans (seen_length x) hl
    have hr : (int_private% "readNumeral") 0 10 (numSeenOf x) = (int_private% "Numeral.value") n ∧ ((numSeenOf x).length == (numTextOf x).length) = true := by
      rcases read0 x hs with ⟨m, h1, h2, h3⟩ | ⟨h1, _⟩
      · rw [hn] at h1
        injection h1 with h1
        subst h1
        exact ⟨h3, h2⟩
      · rw [hn] at h1
        cases h1
    have hk := KIN.Hid.mk (And.intro hs hr)
    clear hs hr hl hn
    repeat (any_goals (first
      | assumption
      | ((with_reducible show wpAny _ _ ((int_private% "intFromText") _ _ _) _ _ _); refine KIN.wp_text hk.out.1 hk.out.2.1 hk.out.2.2 ?_)
      | wp_step))
    all_goals first | exact ⟨_, rfl, h⟩ | skip

section
variable {prog : Program} {w : World} {A : Around} {E : Value → Shared → Prop} {s : Shared} {Q : Value → Shared → Prop} {x : PySem.Str} {t u : Tok} {n : Int}
theorem call_good (hn : PySem.intText? x = some n) (hl : x.length ≤ 640) (h : Q (.int n s.toks) { s with toks := s.toks + 1 }) : wpAny (model prog w) A (call (.type "int") [.str x t, .int 10 u]) Q E s :=
  callType_new F.called_int F.newNe_int (typeCall_int_2 _ _) (newCall_int_2 _ _) (fun obj => F.args_object_init_3 obj _ _) F.entry_int_new (gives_text2 hl hn).meets (show (Made.int n).post _ s from ⟨rfl, h⟩)
end
end Mine
end

section
open PySem PySem.W PyProof.Rows PySem.SeqAt PySem.Calls PySem.NumText
set_option Elab.async false
set_option maxRecDepth 100000
namespace Mine

section
variable {prog : Program} {w : World} {A : Around} {E : Value → Shared → Prop} {s : Shared} {env envL : Env}

/-- What the trace of an exception that stands in the frames Lc and Lf may change of H. -/
def Touched (H h' : Heap) (Lc Lf : Addr) : Prop := (∀ b o, b ≠ Lc → b ≠ Lf → H.get? b = some o → h'.get? b = some o) ∧ H.UpToSlots h'

theorem caught_ve {e : Addr} {H : Heap} {Lc Lf : Addr} {m m2 : Str → Option Value} {b₀ : Stmt} {suite : List Stmt} {pos np : Pos} {Q : Flow → Shared → Prop}
    (hfr : A.frames = some [env, envL]) (hk1 : env.scope.kind = .function) (hk2 : envL.scope.kind ≠ .module) (hf1 : env.frame = some Lc) (hf2 : envL.frame = some Lf)
    (hn1 : H.Ns Lc m) (hn2 : H.Ns Lf m2) (hx : Heap.NewExc H s.heap e "ValueError") (G : Gl H) (h1 : @LE.le Nat _ 85 Lc) (h2 : @LE.le Nat _ 85 Lf)
    (hg : env.globals = mainGlobals) (hb : env.builtins = builtinsNs) (hl : env.kindOf (Str.ofString "ValueError") = some .globalImplicit)
    (h : ∀ h' (E' : Value → Shared → Prop), Touched H h' Lc Lf → wpAny (model prog w) (A.mark (some (.ref e))) (execs (b₀ :: suite) env) Q E' { s with heap := h' }) :
    wpAny (model prog w) A (noteFrame (.ref e) env) (fun _ s₂ => wpAny (model prog w) A (setFlight (.ref e) none) (fun _ s₃ =>
      wpAny (model prog w) A (handleBy (.ref e) env [.ExceptHandler (some (.Name (Str.ofString "ValueError") np)) none (b₀ :: suite) pos]) Q E s₃) E s₂) E s := by
  obtain ⟨ob, tp, he, hcls, hd⟩ := hx.there
  have dataNs : ∀ {a : Addr} {mm : Str → Option Value}, H.Ns a mm → ∃ o, H.get? a = some o ∧ ∀ vs, o.data ≠ .fields vs := fun {a mm} hn => by
    obtain ⟨o, es, ep, ho, hd', _⟩ := hn
    exact ⟨o, ho, fun vs q => by rw [hd'] at q; cases q⟩
  obtain ⟨o1, ho1, hd1⟩ := dataNs hn1
  obtain ⟨o2, ho2, hd2⟩ := dataNs hn2
  have hbN : (hideAll H [Lc, Lf]).get? Lc = none := hideAll_none _ (by simp)
  have hbF : (hideAll H [Lc, Lf]).get? Lf = none := hideAll_none _ (by simp)
  have stays : (hideAll H [Lc, Lf]).StaysIn s.heap := fun b o q => hx.keeps b o (of_hideAll _ q)
  have frames : s.heap.FunFrames (hideAll H [Lc, Lf]) [env, envL] := ⟨by rw [hk1]; decide, ⟨Lc, o1, hf1, hbN, hx.keeps _ _ ho1, hd1⟩, hk2, ⟨Lf, o2, hf2, hbF, hx.keeps _ _ ho2, hd2⟩, trivial⟩
  have hen : (hideAll H [Lc, Lf]).get? e = none := by
    cases q : (hideAll H [Lc, Lf]).get? e with
    | none => rfl
    | some o => have := of_hideAll _ q; rw [hx.new] at this; cases this
  have touch : ∀ h', (hideAll H [Lc, Lf]).StaysIn h' → s.heap.UpToSlots h' → Touched H h' Lc Lf := fun h' k u =>
    ⟨fun b o hb1 hb2 q => k b o (hideAll_get _ q (by simp [hb1, hb2])), (Heap.UpToSlots.of_keeps hx.keeps).trans u⟩
  have glOf : ∀ h', Touched H h' Lc Lf → Gl h' := fun h' T => G.kp (n₁ := 0) (P := fun b => @LT.lt Nat _ b 85)
    (KpOn.of_keep fun b o (hb : @LT.lt Nat _ b 85) q => T.1 b o (Nat.ne_of_lt (Nat.lt_of_lt_of_le hb h1)) (Nat.ne_of_lt (Nat.lt_of_lt_of_le hb h2)) q) fun _ h => h
  unfold noteFrame
  simp only [hf1]
  refine wpAny_bind (wpAny_field he hd (x := .none) rfl ?_)
  rw [if_neg (by decide)]
  refine wpAny_entryW hfr frames hf1 he stays hen hd (by simp) (a0 := tp) rfl fun h₁ N₁ => ?_
  obtain ⟨k1, f1, t1, u1⟩ := N₁
  refine wpAny_setFlight_noneW k1 f1 t1 fun h₂ k2 f2 t2 u2 => ?_
  have u12 : s.heap.UpToSlots h₂ := Heap.UpToSlots.trans u1 (fun b o q hn => ⟨o.slots, u2 b o q hn⟩)
  have T2 := touch h₂ k2 u12
  obtain ⟨ob', hob', hobc⟩ := t2.at.there
  refine wpAny_handleBy_builtin (X := "ValueError") (T := "ValueError") (b := true) PySem.F.isExc_ValueError PySem.F.notTuple_ValueError (by rw [isSubtype_type]; kernel_rfl)
    (nmB (glOf h₂ T2) bt_VE ⟨rfl, ⟨ob', hob', by rw [hobc, hcls]⟩, ?_⟩ hg hb hk1 hl)
  rw [if_pos rfl]
  refine wpAny_setFlight_noneW k2 f2 t2.at fun h₃ k3 f3 t3 u3 => ?_
  exact h h₃ _ (touch h₃ k3 (Heap.UpToSlots.trans u12 (fun b o q hn => ⟨o.slots, u3 b o q hn⟩)))
end
end Mine
end

section
open PySem PySem.W PyProof.Rows PySem.SeqAt PySem.Calls PySem.NumText
set_option Elab.async false
set_option maxRecDepth 100000
namespace Mine

def sgs : Str := Str.ofString "._+-"
theorem sgs_list : sgs.cps.toList = [46, 95, 43, 45] := by decide +kernel
theorem in_nil {y : Str} (h : y.cps.toList = []) : (!(Builtin.Str.occurrences sgs y 0 sgs.length 1).isEmpty) = true := by
  rw [StrLaws.found_iff]
  have hz : y.length = 0 := by show y.cps.size = 0; rw [← Array.length_toList, h]; rfl
  refine ⟨0, by omega, ?_⟩
  show (sgs.cps.extract 0 (0 + y.length) == y.cps) = true
  rw [hz]
  have : y.cps = #[] := Array.toList_inj.mp h
  rw [this]; decide +kernel
theorem in_sign {y : Str} {c : Nat} (h : y.cps.toList = [c]) (hc : c = 46 ∨ c = 95 ∨ c = 43 ∨ c = 45) : (!(Builtin.Str.occurrences sgs y 0 sgs.length 1).isEmpty) = true := by
  obtain ⟨cps⟩ := y
  have : cps = #[c] := Array.toList_inj.mp h
  subst this
  rcases hc with rfl | rfl | rfl | rfl <;> decide +kernel
theorem in_not {y : Str} {c : Nat} {r : List Nat} (h : y.cps.toList = c :: r) (hc : c ≠ 46 ∧ c ≠ 95 ∧ c ≠ 43 ∧ c ≠ 45) : (!(Builtin.Str.occurrences sgs y 0 sgs.length 1).isEmpty) = false := by
  cases hq : (!(Builtin.Str.occurrences sgs y 0 sgs.length 1).isEmpty) with
  | false => rfl
  | true =>
    obtain ⟨i, hi, hs⟩ := (StrLaws.found_iff sgs y).mp hq
    have hs : (sgs.cps.extract i (i + y.length) == y.cps) = true := hs
    have e : sgs.cps.extract i (i + y.length) = y.cps := eq_of_beq hs
    have e2 := congrArg Array.toList e
    rw [Array.toList_extract, h, sgs_list] at e2
    have hm : c ∈ ([46, 95, 43, 45] : List Nat) := by
      have h3 : c ∈ ([46, 95, 43, 45] : List Nat).extract i (i + y.length) := by rw [e2]; exact List.mem_cons_self
      rw [List.extract_eq_take_drop] at h3
      exact List.mem_of_mem_drop (List.mem_of_mem_take h3)
    simp at hm
    omega

/-- what a piece of the text adds to the list -/
inductive Pc : List Nat → List TV → Prop
  | nil : Pc [] []
  | sign {c : Nat} : (c = 46 ∨ c = 95 ∨ c = 43 ∨ c = 45) → Pc [c] []
  | num {c : Nat} {r : List Nat} {n : Int} : 48 ≤ c → c ≤ 57 → (∀ y : Str, y.cps.toList = c :: r → PySem.intText? y = some n ∧ y.length ≤ 640) → Pc (c :: r) [.inl 100, .inl n]
  | word {x : Str} {st : Int} : x ∈ badWords → (x, st) ∈ stageTab → Pc x.cps.toList [.inl st, .inr x]
inductive Pcs : List (List Nat) → List TV → Prop
  | nil : Pcs [] []
  | cons {p : List Nat} {ps : List (List Nat)} {ts us : List TV} : Pc p ts → Pcs ps us → Pcs (p :: ps) (ts ++ us)

theorem bad_head {x : Str} (hx : x ∈ badWords) : ∃ c r, x.cps.toList = c :: r ∧ c ≠ 46 ∧ c ≠ 95 ∧ c ≠ 43 ∧ c ≠ 45 := by
  simp only [badWords, List.mem_cons, List.not_mem_nil, or_false] at hx
  rcases hx with rfl | rfl | rfl | rfl | rfl
  · exact ⟨100, [101, 118], by decide +kernel, by decide⟩
  · exact ⟨97, [], by decide +kernel, by decide⟩
  · exact ⟨98, [], by decide +kernel, by decide⟩
  · exact ⟨114, [99], by decide +kernel, by decide⟩
  · exact ⟨112, [108], by decide +kernel, by decide⟩

/-- the stages' table -/
def Stg (prog : Program) (w : World) (h : Heap) : Prop := ∃ f, h.MapOf (strKind prog w) 58 f ∧ ∀ p ∈ stageTab, ∃ t, f p.1 = some (.int p.2 t)
theorem Stg.get {prog : Program} {w : World} {h h' : Heap} (x : Stg prog w h) (k : ∀ o, h.get? 58 = some o → h'.get? 58 = some o) : Stg prog w h' := by
  obtain ⟨f, ⟨o, es, ep, ho, r⟩, hf⟩ := x
  exact ⟨f, ⟨o, es, ep, k o ho, r⟩, hf⟩

/-- the state of _comparable_version's loop -/
structure VS (s : Shared) (Lf Lc Rr P It : Addr) (us : Array Value) (i : Nat) (vs : List Value) (H : Heap) : Prop where
  ns : ∃ m, H.Ns Lc m ∧ m (Str.ofString "result") = some (.ref Rr)
  res : ∃ n, IsL H Rr vs.toArray n
  it : H.IsListIter It P i
  src : H.IsList P us
  old : ∀ b o, b ≠ Lf → s.heap.get? b = some o → H.get? b = some o
  oldF : ∀ o, s.heap.get? Lf = some o → ∃ sl, H.get? Lf = some { o with slots := sl }

theorem VS.move {s : Shared} {Lf Lc Rr P It : Addr} {us : Array Value} {i : Nat} {vs : List Value} {H H' : Heap} {m : Str → Option Value} (x : VS s Lf Lc Rr P It us i vs H)
    (k : ∀ b o, b ≠ Lc → b ≠ Lf → H.get? b = some o → H'.get? b = some o) (kf : ∀ o, H.get? Lf = some o → ∃ sl, H'.get? Lf = some { o with slots := sl })
    (hn : H'.Ns Lc m) (hm : m (Str.ofString "result") = some (.ref Rr)) (hlt : s.heap.objs.size ≤ Lc)
    (d : Rr ≠ Lc ∧ Rr ≠ Lf ∧ P ≠ Lc ∧ P ≠ Lf ∧ It ≠ Lc ∧ It ≠ Lf) : VS s Lf Lc Rr P It us i vs H' where
  ns := ⟨m, hn, hm⟩
  res := let ⟨n, h⟩ := x.res; ⟨n, k _ _ d.1 d.2.1 h⟩
  it := let ⟨o, h, r⟩ := x.it; ⟨o, k _ _ d.2.2.2.2.1 d.2.2.2.2.2 h, r⟩
  src := let ⟨o, h, r⟩ := x.src; ⟨o, k _ _ d.2.2.1 d.2.2.2.1 h, r⟩
  old := fun b o hb e => k b o (Nat.ne_of_lt (Nat.lt_of_lt_of_le (Heap.lt_size e) hlt)) hb (x.old b o hb e)
  oldF := fun o e => by
    obtain ⟨sl, h⟩ := x.oldF o e
    obtain ⟨sl2, h2⟩ := kf _ h
    exact ⟨sl2, h2⟩

theorem VS.gl {s : Shared} {Lf Lc Rr P It : Addr} {us : Array Value} {i : Nat} {vs : List Value} {H : Heap} (x : VS s Lf Lc Rr P It us i vs H) (G : Gl s.heap) (hf : @LE.le Nat _ 85 Lf) : Gl H :=
  G.kp (n₁ := 0) (P := fun b => @LT.lt Nat _ b 85) (KpOn.of_keep fun b o (hb : @LT.lt Nat _ b 85) e => x.old b o (Nat.ne_of_lt (Nat.lt_of_lt_of_le hb hf)) e) fun _ h => h

end Mine
end

section
open PySem PySem.W PyProof.Rows PySem.SeqAt PySem.Calls PySem.NumText
set_option Elab.async false
set_option maxRecDepth 100000
namespace Mine

section
variable {prog : Program} {w : World} {A : Around} {E : Value → Shared → Prop} {s : Shared} {env : Env}

theorem wpC_Try {body orelse : List Stmt} {h₀ : ExceptHandler} {hs : List ExceptHandler} {pos : Pos} {Q : Flow → Shared → Prop}
    (h : wpC (model prog w) A (execs body env) (fun f s₁ => match f with | .next => wpC (model prog w) A (execs orelse env) Q E s₁ | f => Q f s₁)
      (fun e s₁ => wpAny (model prog w) A (noteFrame e env) (fun _ s₂ => wpAny (model prog w) A (setFlight e none) (fun _ s₃ => wpC (model prog w) A (handleBy e env (h₀ :: hs)) Q E s₃) E s₂) E s₁) s) :
    wpC (model prog w) A (exec (.Try body (h₀ :: hs) orelse [] pos) env) Q E s := by
  rw [arm_exec_Try]
  exact wpC_then (wpAny_standAt (wpC_tryStmt h))

/-- the places, apart from each other -/
structure Pl (s : Shared) (Lf Lc Rr P It : Addr) : Prop where
  lc : Lc = s.heap.objs.size
  lf : @LT.lt Nat _ Lf Lc
  rr : @LT.lt Nat _ Lc Rr
  p : @LT.lt Nat _ Rr P
  it : @LT.lt Nat _ P It
  low : @LE.le Nat _ 85 Lf
theorem Pl.d {s : Shared} {Lf Lc Rr P It : Addr} (x : Pl s Lf Lc Rr P It) : Rr ≠ Lc ∧ Rr ≠ Lf ∧ P ≠ Lc ∧ P ≠ Lf ∧ It ≠ Lc ∧ It ≠ Lf := by
  obtain ⟨_, h1, h2, h3, h4, _⟩ := x
  exact ⟨fun q => by have q' : @Eq Nat Rr Lc := q; omega, fun q => by have q' : @Eq Nat Rr Lf := q; omega, fun q => by have q' : @Eq Nat P Lc := q; omega, fun q => by have q' : @Eq Nat P Lf := q; omega,
    fun q => by have q' : @Eq Nat It Lc := q; omega, fun q => by have q' : @Eq Nat It Lf := q; omega⟩

theorem ext_tail {Lf Lc Rr P It a : Addr} {cd : Value} {us : Array Value} {i : Nat} {vs : List Value} {H : Heap} {tk : Nat} {m : Str → Option Value} {tv vv : Value} {ap1 ap2 ap3 ap4 ap5 ap6 ap7 : Pos} {Q : Flow → Shared → Prop}
    (D : Pl s Lf Lc Rr P It) (x : VS s Lf Lc Rr P It us i vs H) (hn : H.Ns Lc m) (hm : m (Str.ofString "result") = some (.ref Rr)) (ht : m (Str.ofString "t") = some tv) (hv : m (Str.ofString "v") = some vv)
    (hsz : vs.length + 2 ≤ 1000) (hline : (ap2.endLine == ap6.line) = true)
    (h : ∀ h', VS s Lf Lc Rr P It us i (vs ++ [tv, vv]) h' → Q .next { s with heap := h', toks := tk }) :
    wpAny (model prog w) A (exec (.Expr (.Call (.Attribute (.Name (Str.ofString "result") ap1) (Str.ofString "extend") ap2) [.Tuple [.Name (Str.ofString "t") ap3, .Name (Str.ofString "v") ap4] 0 ap5] [] ap6) ap7) (envOf (fN 8) (fS 8) Lc a cd)) Q E { s with heap := H, toks := tk } := by
  obtain ⟨n, hr⟩ := x.res
  have sz : ∀ k : Nat, k ≤ 1000 → k ≤ sizeLine := fun k hk => by rw [sizeLine_eq]; omega
  refine wpAny_Expr (wpAny_Call_method (T := "list") (id := "list.extend") rfl rfl hline PySem.F.plainAttrs_list PySem.F.slot_list_extend PySem.F.type_list_extend
    (nmL hn hm ⟨⟨_, hr, rfl⟩, fun b hb => by cases hb; exact ⟨_, hr, rfl⟩, ?_⟩))
  show wpAny _ _ (callWith ap6 (.builtin "list.extend") [.ref Rr] [(false, eval (.Tuple [.Name (Str.ofString "t") ap3, .Name (Str.ofString "v") ap4] 0 ap5) (envOf (fN 8) (fS 8) Lc a cd))] []) _ _ _
  refine seqMethod1_meets PySem.F.slot_list_extend PySem.F.entry_list_extend ?_
  refine wpAny_Tuple (wpAny_items_cons (nmL hn ht (wpAny_items_cons (nmL hn hv (wpAny_items_nil ⟨by size_fits, ?_⟩)))))
  have hr' := Heap.get?_push_of_some { cls := .type "tuple", data := .seq [tv, vv].toArray } hr
  refine ⟨⟨_, hr', rfl⟩, PySem.F.args_list_extend_2 _ _, _, AutoSeq1.list_extend_list_tuple_0 Rr vs.toArray n H.objs.size [tv, vv].toArray 0 (extend_door (by simp; exact sz _ hsz)) (by simp; exact sz _ (by omega)) (by rw [List.size_toArray, List.size_toArray]; exact Nat.le_succ_of_le (sz _ hsz)), hr', Heap.get?_push_size _ rfl, ?_⟩
  refine h _ ?_
  have up : ∀ b o, b ≠ Rr → H.get? b = some o → ((H.push { cls := .type "tuple", data := .seq [tv, vv].toArray }).update Rr (Obj.mapSeq fun x => x ++ [tv, vv].toArray)).get? b = some o := fun b o hb e =>
    (Heap.get?_update_other _ _ (Ne.symm hb)).trans (Heap.get?_push_of_some _ e)
  have lt : ∀ b : Nat, @LT.lt Nat _ b Rr → b ≠ Rr := fun b hb => Nat.ne_of_lt hb
  have gt : ∀ b : Nat, @LT.lt Nat _ Rr b → b ≠ Rr := fun b hb => Nat.ne_of_gt hb
  refine ⟨⟨m, hn.at' fun o e => up _ o (lt _ D.rr) e, hm⟩, ?_, ?_, ?_, fun b o hb e => ?_, fun o e => ?_⟩
  · have e' := IsL.update (l := Rr) (h := H.push { cls := .type "tuple", data := .seq [tv, vv].toArray }) hr' (fun x => x ++ [tv, vv].toArray)
    have e2 : vs.toArray ++ [tv, vv].toArray = (vs ++ [tv, vv]).toArray := by simp
    rw [e2] at e'
    exact ⟨_, e'⟩
  · obtain ⟨o, e, r⟩ := x.it; exact ⟨o, up _ o (gt _ (Nat.lt_trans D.p D.it)) e, r⟩
  · obtain ⟨o, e, r⟩ := x.src; exact ⟨o, up _ o (gt _ D.p) e, r⟩
  · exact up b o (lt _ (Nat.lt_of_lt_of_le (Heap.lt_size e) (by rw [← D.lc]; exact Nat.le_of_lt D.rr))) (x.old b o hb e)
  · obtain ⟨sl, h1⟩ := x.oldF o e
    exact ⟨sl, up _ _ (lt _ (Nat.lt_trans D.lf D.rr)) h1⟩
end
end Mine
end

section
open PySem PySem.W PyProof.Rows PySem.SeqAt PySem.Calls PySem.NumText
set_option Elab.async false
set_option maxRecDepth 100000
namespace Mine

section
variable {prog : Program} {w : World} {A : Around} {E : Value → Shared → Prop} {s : Shared} {envL : Env}

/-- one turn of the loop -/
theorem comp_turn {Lf Lc Rr Pp It : Addr} {cd : Value} {us : Array Value} {i : Nat} {vs : List Value} {H : Heap} {tk : Nat} {m m2 : Str → Option Value} {y : Str} {yt : Tok} {p : List Nat} {ts : List TV} {Q : Flow → Shared → Prop}
    (hh : A.handled = none) (hfr : A.frames = some [envOf (fN 8) (fS 8) Lc 65 cd, envL]) (hk2 : envL.scope.kind ≠ .module) (hf2 : envL.frame = some Lf)
    (G : Gl s.heap) (S : Stg prog w s.heap) (D : Pl s Lf Lc Rr Pp It) (x : VS s Lf Lc Rr Pp It us i vs H) (hn : H.Ns Lc m) (hm : m (Str.ofString "result") = some (.ref Rr)) (hv : m (Str.ofString "v") = some (.str y yt)) (hn2 : H.Ns Lf m2)
    (hy : y.cps.toList = p) (hp : Pc p ts) (hsz : vs.length + 2 ≤ 1000)
    (h : ∀ h' tk' vs', VS s Lf Lc Rr Pp It us i (vs ++ vs') h' → Holds2 vs' ts → Q .next { s with heap := h', toks := tk' }) :
    wpC (model prog w) A (execs (sForB (fB 8) 2) (envOf (fN 8) (fS 8) Lc 65 cd)) Q E { s with heap := H, toks := tk } := by
  have hLc : @LE.le Nat _ 85 Lc := Nat.le_of_lt (Nat.lt_of_le_of_lt D.low D.lf)
  refine wpC_execs_cons (wpC_If (wpAny_isTrue_Compare1 (nmL hn hv (wpAny_Constant_str (P.notIn_str (wpAny_truthy_bool ?_))))))
  cases hp with
  | nil =>
    rw [show Str.ofString "._+-" = sgs from rfl, in_nil hy]
    show wpC _ _ (execs _ _) _ _ _
    exact wpC_of (wpAny_execs_nil (wpC_of (wpAny_execs_nil (h H _ [] (by rw [List.append_nil]; exact x) rfl))))
  | sign hc =>
    rw [show Str.ofString "._+-" = sgs from rfl, in_sign hy hc]
    show wpC _ _ (execs _ _) _ _ _
    exact wpC_of (wpAny_execs_nil (wpC_of (wpAny_execs_nil (h H _ [] (by rw [List.append_nil]; exact x) rfl))))
  | @num c r n h1 h2 hint =>
    rw [show Str.ofString "._+-" = sgs from rfl, in_not hy (by omega)]
    show wpC _ _ (execs _ _) _ _ _
    obtain ⟨hi1, hi2⟩ := hint y hy
    refine wpC_execs_cons (wpC_Try ?_)
    refine wpC_execs_cons (wpC_Assign_Name (wpC_Call (nmB (x.gl G D.low) bt_int ?_)))
    refine callWithC_type (args_cons (nmL hn hv (args_cons (wpAny_Constant_int (args_nil (wpC_of (call_good hi1 hi2 ?_)))))))
    refine wpAny_storeName_local (env := envOf (fN 8) (fS 8) Lc 65 cd) rfl hn (fun h₁ n₁ s₁ => ?_) rfl
    replace s₁ : Heap.SameBut Lc H h₁ := s₁
    refine wpC_stmt (wpAny_Assign_Name (wpAny_Constant_int (wpAny_storeName_local (env := envOf (fN 8) (fS 8) Lc 65 cd) rfl n₁ (fun h₂ n₂ s₂ => ?_) rfl)))
    replace s₂ : Heap.SameBut Lc h₁ h₂ := s₂
    have k₂ : ∀ b o, b ≠ Lc → H.get? b = some o → h₂.get? b = some o := fun b o hb e => s₂.extBut b o hb (s₁.extBut b o hb e)
    have hfc : Lf ≠ Lc := Nat.ne_of_lt D.lf
    refine wpC_of (wpAny_execs_nil (wpC_of (wpAny_execs_nil ?_)))
    have x₂ : VS s Lf Lc Rr Pp It us i vs h₂ := x.move (fun b o hb _ e => k₂ b o hb e) (fun o e => ⟨o.slots, k₂ _ o hfc e⟩) n₂ hm (Nat.le_of_eq D.lc.symm) D.d
    refine wpC_stmt (ext_tail (s := s) (H := h₂) D x₂ n₂ hm (tv := .int 100 _) rfl (vv := .int n _) rfl hsz rfl fun h₃ x₃ => ?_)
    exact wpC_of (wpAny_execs_nil (wpC_of (wpAny_execs_nil (h h₃ _ _ x₃ rfl))))
  | @word wd st hb hs =>
    obtain ⟨c, r, he, hc⟩ := bad_head hb
    rw [show Str.ofString "._+-" = sgs from rfl, in_not (hy.trans he) hc]
    show wpC _ _ (execs _ _) _ _ _
    have hyw : y = wd := by
      obtain ⟨yc⟩ := y; obtain ⟨wc⟩ := wd
      exact congrArg Str.mk (Array.toList_inj.mp hy)
    subst hyw
    refine wpC_execs_cons (wpC_Try ?_)
    refine wpC_execs_cons (wpC_Assign_Name (wpC_Call (nmB (x.gl G D.low) bt_int ?_)))
    refine callWithC_type (args_cons (nmL hn hv (args_cons (wpAny_Constant_int (args_nil (call_bad hb hh fun h₁ tk₁ e hx => ?_))))))
    have hx : Heap.NewExc H h₁ e "ValueError" := hx
    refine wpAny_mono (caught_ve (env := envOf (fN 8) (fS 8) Lc 65 cd) (envL := envL) (m := m) (m2 := m2) (H := H) hfr rfl hk2 rfl hf2 hn hn2 hx (x.gl G D.low) hLc D.low rfl rfl rfl (Q := _) (E := _) fun h₂ E' T => ?_) (fun _ s₂ q => wpAny_mono q (fun _ s₃ q => wpC_of q) fun _ _ q => q) fun _ _ q => q
    have n₂ : h₂.Ns Lc m := T.2.ns hn
    have kf : ∀ o, H.get? Lf = some o → ∃ sl, h₂.get? Lf = some { o with slots := sl } := fun o e => by
      obtain ⟨o', es, ep, ho', hd', _⟩ := hn2
      rw [ho'] at e; cases e
      exact T.2 _ _ ho' (fun vs q => by rw [hd'] at q; cases q)
    have x₂ : VS s Lf Lc Rr Pp It us i vs h₂ := x.move (fun b o hb1 hb2 e => T.1 b o hb1 hb2 e) kf n₂ hm (Nat.le_of_eq D.lc.symm) D.d
    have S₂ : Stg prog w h₂ := S.get fun o e => x₂.old 58 o (fun q => by have q' : @Eq Nat 58 Lf := q; have := D.low; omega) e
    obtain ⟨f, hmap, hf⟩ := S₂
    obtain ⟨t₀, hft⟩ := hf _ hs
    refine wpAny_execs_cons (wpAny_Assign_Name ?_)
    refine wpAny_Call_method (T := "dict") (id := "dict.get") rfl rfl rfl PySem.F.plainAttrs_dict PySem.F.slot_dict_get PySem.F.type_dict_get (nmG (x₂.gl G D.low) gt_stages ⟨hmap.typeIs, fun b hb => ?_, ?_⟩)
    · cases hb
      obtain ⟨o, _, _, ho, hex, _⟩ := hmap
      exact ⟨o, ho, hex.2.1⟩
    · show wpAny _ _ (callWith ⟨57, 20, 57, 41⟩ (.builtin "dict.get") [.ref 58] [(false, eval (.Name (Str.ofString "v") ⟨57, 36, 57, 37⟩) (envOf (fN 8) (fS 8) Lc 65 cd)), (false, eval (.Constant (.int 0) 0 ⟨57, 39, 57, 40⟩) (envOf (fN 8) (fS 8) Lc 65 cd))] []) _ _ _
      refine wpAny_dict_get2 (knd := strKind prog w) (by decide) (nmL n₂ hv (wpAny_Constant_int ⟨y, f, strKind_is prog w y yt, hmap, ?_⟩))
      rw [hft]
      show wpAny _ _ (storeName _ _ (.int st t₀)) _ _ _
      refine wpAny_storeName_local (env := envOf (fN 8) (fS 8) Lc 65 cd) rfl n₂ (fun h₃ n₃ s₃ => wpAny_execs_nil ?_) rfl
      replace s₃ : Heap.SameBut Lc h₂ h₃ := s₃
      have hfc : Lf ≠ Lc := Nat.ne_of_lt D.lf
      have x₃ : VS s Lf Lc Rr Pp It us i vs h₃ := x₂.move (fun b o hb _ e => s₃.extBut b o hb e) (fun o e => ⟨o.slots, s₃.extBut _ o hfc e⟩) n₃ hm (Nat.le_of_eq D.lc.symm) D.d
      refine wpC_stmt (ext_tail (s := s) (H := h₃) D x₃ n₃ hm (tv := .int st t₀) rfl (vv := .str y yt) hv hsz rfl fun h₄ x₄ => ?_)
      exact wpC_of (wpAny_execs_nil (wpC_of (wpAny_execs_nil (h h₄ _ _ x₄ rfl))))
end
end Mine
end

section
open PySem PySem.W PyProof.Rows PySem.SeqAt PySem.Calls PySem.NumText
set_option Elab.async false
set_option maxRecDepth 100000
namespace Mine

theorem Holds2.append {as bs : List Value} {ts us : List TV} (x : Holds2 as ts) (y : Holds2 bs us) : Holds2 (as ++ bs) (ts ++ us) := by
  unfold Holds2 at *
  rw [List.map_append, List.map_append, x, y]
theorem Holds2.length {as : List Value} {ts : List TV} (x : Holds2 as ts) : as.length = ts.length := by
  have := congrArg List.length x; simpa using this
theorem Pc.len {p : List Nat} {ts : List TV} (h : Pc p ts) : ts.length ≤ 2 := by cases h <;> simp

section
variable {prog : Program} {w : World} {A : Around} {E : Value → Shared → Prop} {s : Shared} {envL : Env}

theorem txt_str {v : Value} {p : List Nat} (h : txtOf v = some p) : ∃ y t, v = .str y t ∧ y.cps.toList = p := by
  cases v with
  | str y t => exact ⟨y, t, rfl, Option.some.inj h⟩
  | _ => cases h

set_option maxHeartbeats 1000000 in
theorem comparable_call {x : Str} {t : Tok} {ps : List (List Nat)} {ts : List TV} {Lf : Addr} {m2 : Str → Option Value} {Q : Value → Shared → Prop}
    (hh : A.handled = none) (hfrA : A.frames = some [envL]) (hk2 : envL.scope.kind ≠ .module) (hf2 : envL.frame = some Lf) (h85 : @LE.le Nat _ 85 Lf) (G : Gl s.heap) (S : Stg prog w s.heap) (hnf : s.heap.Ns Lf m2)
    (hroom : A.depth + 5 < recursionLimit) (hspl : Spl x.cps.toList ps) (hpcs : Pcs ps ts) (hx : x.cps.size < 4096) (hps : ps.length ≤ 400)
    (h : ∀ h' tk v, (∀ b o, b ≠ Lf → s.heap.get? b = some o → h'.get? b = some o) → (∀ o, s.heap.get? Lf = some o → ∃ sl, h'.get? Lf = some { o with slots := sl }) → TL h' s.heap.objs.size ts v → Q v { s with heap := h', toks := tk }) :
    wpC (model prog w) A (call (.ref 65) [.str x t]) Q E s := by
  have hLf : @LT.lt Nat _ Lf s.heap.objs.size := hnf.lt
  obtain ⟨o, pm, c, ho, -, hd, hcd, -⟩ := G.f8
  refine wpC_call (callC_plain (binds := [(Str.ofString "version", Value.str x t)]) (by omega) ho hd G.lim hcd rfl (by intro y hy; simp at hy; subst hy; rfl) (fun h₁ F z₁ => ?_) rfl rfl rfl (by decide +kernel))
  have G₁ : Gl h₁ := G.keeps F.keep
  refine wpC_stmt (wpAny_Assign_Name (nmG G₁ gt_re (st F (fun h₂ F₂ => ?_) rfl rfl)))
  refine wpC_stmt (wpAny_Assign_Name (wpAny_List (wpAny_items_nil ⟨by size_fits, ?_⟩)))
  have F₂' : Fr s.heap s.heap.objs.size (h₂.push { cls := .type "list", data := .seq ([] : List Value).toArray }) _ := F₂.push _
  refine wpAny_storeName_local (env := envOf (fN 8) (fS 8) s.heap.objs.size 65 (.ref c)) rfl F₂'.ns (fun h₃ n₃ s₃ => ?_) rfl
  replace s₃ : Heap.SameBut s.heap.objs.size (h₂.push { cls := .type "list", data := .seq ([] : List Value).toArray }) h₃ := s₃
  have F₃ := F₂'.set n₃ s₃
  have Llt : s.heap.objs.size < h₂.objs.size := F₂.ns.lt
  have r₃ : IsL h₃ h₂.objs.size #[] 0 := s₃.extBut _ _ (Nat.ne_of_gt Llt) (Heap.get?_push_size _ rfl)
  have G₃ : Gl h₃ := G.keeps F₃.keep
  obtain ⟨pt, u, v, hre⟩ := G₃.re
  refine wpC_execs_cons (wpC_For ?_)
  refine wpAny_Call_method (T := "re.Pattern") (id := "re.Pattern.split") rfl rfl rfl plainAttrs_re slot_re_split type_re_split (nmL n₃ (v := .ref 57) rfl ⟨⟨_, hre, rfl⟩, fun b hb => by cases hb; exact ⟨_, hre, rfl⟩, ?_⟩)
  refine callWith_method1 (args_cons (nmL n₃ (v := .str x t) rfl (args_nil ?_)))
  refine wpAny_call_entry slot_re_split ⟨_, hre, rfl⟩ entry_re_split (split_meets hspl hx hre G₃.code (fun us tk' hus => ?_) (by omega)) (args_re_split _ _)
  have hul : us.length = ps.length := by have := congrArg List.length hus; simpa using this
  have k₄ : ∀ b o, h₃.get? b = some o → (h₃.push { cls := .type "list", data := .seq us.toArray }).get? b = some o := fun b o e => Heap.get?_push_of_some _ e
  refine wpAny_pyIter_list (l := h₃.objs.size) (items := us.toArray) ⟨_, Heap.get?_push_size _ rfl, rfl, _, rfl⟩ ?_
  have rlt : h₂.objs.size < h₃.objs.size := Heap.lt_size r₃
  have hh' : (A.deeper (envOf (fN 8) (fS 8) s.heap.objs.size 65 (.ref c))).handled = none := hh
  have hfr' : (A.deeper (envOf (fN 8) (fS 8) s.heap.objs.size 65 (.ref c))).frames = some [envOf (fN 8) (fS 8) s.heap.objs.size 65 (.ref c), envL] := by
    show A.frames.map _ = _
    rw [hfrA]; rfl
  have D : Pl s Lf s.heap.objs.size h₂.objs.size h₃.objs.size (h₃.objs.size + 1) := ⟨rfl, hLf, Llt, rlt, Nat.lt_succ_self _, h85⟩
  have sz₄ : (h₃.push { cls := .type "list", data := .seq us.toArray }).objs.size = h₃.objs.size + 1 := Heap.size_push ..
  have x₀ : VS s Lf s.heap.objs.size h₂.objs.size h₃.objs.size (h₃.objs.size + 1) us.toArray 0 [] ((h₃.push { cls := .type "list", data := .seq us.toArray }).push { cls := .type "list_iterator", data := .fields #[.ref h₃.objs.size, .int 0 0] }) := by
    refine ⟨⟨_, (F₃.ns.keeps k₄).push _, rfl⟩, ⟨0, Heap.get?_push_of_some _ (k₄ _ _ r₃)⟩, ?_, ⟨_, Heap.get?_push_of_some _ (Heap.get?_push_size _ rfl), rfl, _, rfl⟩, fun b o _ e => Heap.get?_push_of_some _ (k₄ _ _ (F₃.keep b o e)), fun o e => ⟨o.slots, Heap.get?_push_of_some _ (k₄ _ _ (F₃.keep _ o e))⟩⟩
    have := Heap.get?_push_size (h₃.push { cls := .type "list", data := .seq us.toArray }) (o := { cls := .type "list_iterator", data := .fields #[.ref h₃.objs.size, .int 0 0] }) rfl
    rw [sz₄] at this
    exact ⟨_, this, rfl, rfl⟩
  show codeC _ _ (.forLoop _ (.ref (h₃.push { cls := .type "list", data := .seq us.toArray }).objs.size) _ _ _) _ _
  rw [sz₄]
  refine codeC_forLoop_any (fun n s' => ∃ i vs dn rs H tk, n = ps.length - i ∧ i ≤ ps.length ∧ s' = { s with heap := H, toks := tk } ∧ VS s Lf s.heap.objs.size h₂.objs.size h₃.objs.size (h₃.objs.size + 1) us.toArray i vs H ∧ Pcs (ps.drop i) rs ∧ Holds2 vs dn ∧ dn ++ rs = ts ∧ vs.length ≤ 2 * i) ?_ ps.length
    ⟨0, [], [], ts, _, _, rfl, Nat.zero_le _, rfl, x₀, hpcs, rfl, rfl, Nat.le_refl _⟩
  rintro n s' ⟨i, vs, dn, rs, H, tk, rfl, hi, rfl, x, hrs, hvs, hts, hvl⟩ E'
  rcases Nat.lt_or_ge i ps.length with hlt | hge
  · have hui : i < us.length := by omega
    have hpi : txtOf us[i] = some ps[i] := by
      have := congrArg (fun l : List (Option (List Nat)) => l[i]?) hus
      simp [hui, hlt] at this
      exact this
    obtain ⟨y, yt, hy, hyp⟩ := txt_str hpi
    have hget : us.toArray[i]? = some (.str y yt) := by simp [hui, hy]
    refine wpAny_pyNext_list_item x.it x.src hget fun H₁ it₁ s₁ => ?_
    replace s₁ : Heap.SameBut (h₃.objs.size + 1) H H₁ := s₁
    show wpAny _ _ _ _ _ _
    refine wpAny_pure ?_
    obtain ⟨m, hn, hm⟩ := x.ns
    have ne1 : ∀ b : Nat, @LT.lt Nat _ b (h₃.objs.size + 1) → b ≠ h₃.objs.size + 1 := fun b hb => Nat.ne_of_lt hb
    have x₁ : VS s Lf s.heap.objs.size h₂.objs.size h₃.objs.size (h₃.objs.size + 1) us.toArray (i + 1) vs H₁ := by
      refine ⟨⟨m, hn.at' fun o e => s₁.extBut _ o (ne1 _ (by omega)) e, hm⟩, ?_, it₁, ?_, fun b o hb e => ?_, fun o e => ?_⟩
      · obtain ⟨n, e⟩ := x.res; exact ⟨n, s₁.extBut _ _ (ne1 _ (by omega)) e⟩
      · obtain ⟨o, e, r⟩ := x.src; exact ⟨o, s₁.extBut _ _ (ne1 _ (by omega)) e, r⟩
      · exact s₁.extBut _ _ (ne1 _ (by have q : @LT.lt Nat _ b s.heap.objs.size := Heap.lt_size e; omega)) (x.old b o hb e)
      · obtain ⟨sl, e'⟩ := x.oldF o e
        exact ⟨sl, s₁.extBut _ _ (ne1 _ (by omega)) e'⟩
    have n₁ : H₁.Ns s.heap.objs.size m := hn.at' fun o e => s₁.extBut _ o (ne1 _ (by omega)) e
    refine wpAny_assign_Name (wpAny_storeName_local (env := envOf (fN 8) (fS 8) s.heap.objs.size 65 (.ref c)) rfl n₁ (fun H₂ n₂ s₂ => ?_) rfl)
    replace s₂ : Heap.SameBut s.heap.objs.size H₁ H₂ := s₂
    have hfc : Lf ≠ s.heap.objs.size := Nat.ne_of_lt hLf
    have x₂ : VS s Lf s.heap.objs.size h₂.objs.size h₃.objs.size (h₃.objs.size + 1) us.toArray (i + 1) vs H₂ :=
      x₁.move (fun b o hb _ e => s₂.extBut b o hb e) (fun o e => ⟨o.slots, s₂.extBut _ o hfc e⟩) n₂ hm (Nat.le_refl _) D.d
    have hnf₂ : ∃ mm, H₂.Ns Lf mm := by
      obtain ⟨o, es, ep, ho', hd', r⟩ := hnf
      obtain ⟨sl, e⟩ := x₂.oldF o ho'
      exact ⟨m2, _, es, ep, e, hd', r⟩
    obtain ⟨mm, hnf₂⟩ := hnf₂
    have hdr : ps.drop i = ps[i] :: ps.drop (i + 1) := List.drop_eq_getElem_cons hlt
    rw [hdr] at hrs
    cases hrs with
    | @cons _ _ ts₁ us₁ hpc hrest =>
      refine comp_turn (s := s) (H := H₂) hh' hfr' hk2 hf2 G S D x₂ n₂ hm rfl hnf₂ hyp hpc (by omega) fun h' tk' vs' x' hvs' => ?_
      show ∃ m, m < _ ∧ _
      refine ⟨ps.length - (i + 1), by omega, i + 1, vs ++ vs', dn ++ ts₁, us₁, h', tk', rfl, hlt, rfl, x', hrest, hvs.append hvs', by rw [List.append_assoc]; exact hts, ?_⟩
      have := hvs'.length
      have := hpc.len
      rw [List.length_append]; omega
  · have hie : i = ps.length := Nat.le_antisymm hi hge
    refine wpAny_pyNext_list_end hh x.it x.src (by simp; omega) fun H₁ s₁ => ?_
    replace s₁ : Heap.ExtBut (h₃.objs.size + 1) H H₁ := s₁
    show wpC _ _ (execs [] _) _ _ _
    refine wpC_of (wpAny_execs_nil ?_)
    have ne1 : ∀ b : Nat, @LT.lt Nat _ b (h₃.objs.size + 1) → b ≠ h₃.objs.size + 1 := fun b hb => Nat.ne_of_lt hb
    obtain ⟨m, hn, hm⟩ := x.ns
    have n₁ : H₁.Ns s.heap.objs.size m := hn.at' fun o e => s₁ _ o (ne1 _ (by omega)) e
    refine wpC_stmt (wpAny_Return_some (nmL n₁ hm ?_))
    rw [hie, List.drop_of_length_le (Nat.le_refl _)] at hrs
    cases hrs
    rw [List.append_nil] at hts
    subst hts
    refine h H₁ tk _ (fun b o hb e => s₁ b o (ne1 _ (by have q : @LT.lt Nat _ b s.heap.objs.size := Heap.lt_size e; omega)) (x.old b o hb e)) (fun o e => ?_) ?_
    · obtain ⟨sl, e'⟩ := x.oldF o e
      exact ⟨sl, s₁ _ _ (ne1 _ (by omega)) e'⟩
    · obtain ⟨n, hr⟩ := x.res
      exact ⟨_, vs.toArray, rfl, Nat.le_of_lt Llt, ⟨_, s₁ _ _ (ne1 _ (by omega)) hr, rfl, _, rfl⟩, hvs⟩
end
end Mine
end

section
open PySem PySem.W PyProof.Rows PySem.SeqAt PySem.Calls PySem.NumText
set_option Elab.async false
set_option maxRecDepth 100000
namespace Mine

/-- a run of figures that tells n -/
structure IsNum (l : List Nat) (n : Int) : Prop where
  ne : l ≠ []
  dg : ∀ c ∈ l, isD c = true
  val : ((digitsVal l : Nat) : Int) = n
  len : l.length ≤ 3

theorem isNum_numS {n : Int} (h0 : 0 ≤ n) (h : n < 12) : IsNum (numS n).cps.toList n ∧ (numS n).cps.toList.length ≤ 2 := by
  have : n = 0 ∨ n = 1 ∨ n = 2 ∨ n = 3 ∨ n = 4 ∨ n = 5 ∨ n = 6 ∨ n = 7 ∨ n = 8 ∨ n = 9 ∨ n = 10 ∨ n = 11 := by omega
  have key : ∀ k : Nat, k < 12 → ((numS (k : Int)).cps.toList ≠ [] ∧ ((numS (k : Int)).cps.toList.all isD = true) ∧ digitsVal (numS (k : Int)).cps.toList = k ∧ (numS (k : Int)).cps.toList.length ≤ 2) := by decide +kernel
  obtain ⟨k, rfl⟩ := Int.eq_ofNat_of_zero_le h0
  obtain ⟨a, b, c, d⟩ := key k (by omega)
  exact ⟨⟨a, fun x hx => List.all_eq_true.mp b x hx, by rw [c], Nat.le_succ_of_le d⟩, d⟩
theorem IsNum.zero {l : List Nat} {n : Int} (h : IsNum l n) (hl : l.length ≤ 2) : IsNum (48 :: l) n :=
  ⟨by simp, fun c hc => by rcases List.mem_cons.mp hc with rfl | hc; decide; exact h.dg c hc, h.val, by simp; omega⟩
theorem IsNum.pc {l : List Nat} {n : Int} (h : IsNum l n) : Pc l [.inl 100, .inl n] := by
  obtain ⟨ne, dg, val, len⟩ := h
  cases l with
  | nil => exact absurd rfl ne
  | cons c r =>
    have rng : ∀ d ∈ c :: r, 48 ≤ d ∧ d ≤ 57 := fun d hd => by
      have := dg d hd
      unfold isD at this
      simpa using this
    refine .num (rng c List.mem_cons_self).1 (rng c List.mem_cons_self).2 fun y hy => ?_
    have hlen : y.length ≤ 3 := by
      show y.cps.size ≤ 3
      rw [← Array.length_toList, hy]; exact len
    refine ⟨?_, by omega⟩
    rw [intText_digits (x := y) (by rw [hy]; exact rng) (by rw [hy]; simp) (by omega), hy, val]

/-- what _comparable_version gives of a release -/
def tdTail (x : Int) : List TV :=
  if tailOf x = Str.empty then [] else if tailOf x = Str.ofString "." then [.inl 100, .inl ((x.fdiv 252).fmod 12)]
  else [.inl (stageOf x), .inr (tailOf x), .inl 100, .inl ((x.fdiv 252).fmod 12)]
def td (x : Int) : List TV := [.inl 100, .inl (x.fmod 3), .inl 100, .inl ((x.fdiv 3).fmod 12)] ++ tdTail x

theorem sgn_cases (x : Int) : sgnOf x = 46 ∨ sgnOf x = 95 ∨ sgnOf x = 43 ∨ sgnOf x = 45 := by
  have b4 := fmod_bounds (x.fdiv 3024) 4 (by decide)
  unfold sgnOf
  generalize (x.fdiv 3024).fmod 4 = k at b4
  have : k = 0 ∨ k = 1 ∨ k = 2 ∨ k = 3 := by omega
  rcases this with rfl | rfl | rfl | rfl <;> decide
theorem sgn_ok (x : Int) : isD (sgnOf x) = false ∧ isS (sgnOf x) = true := by
  rcases sgn_cases x with h | h | h | h <;> rw [h] <;> decide +kernel

/-- the tail's place tells its stage -/
theorem tail_stage (x : Int) : (tailOf x = Str.empty ∧ stageOf x = 0) ∨ (tailOf x = Str.ofString "dev" ∧ stageOf x = 10) ∨ (tailOf x = Str.ofString "a" ∧ stageOf x = 20) ∨ (tailOf x = Str.ofString "b" ∧ stageOf x = 30) ∨
    (tailOf x = Str.ofString "rc" ∧ stageOf x = 50) ∨ (tailOf x = Str.ofString "." ∧ stageOf x = 100) ∨ (tailOf x = Str.ofString "pl" ∧ stageOf x = 200) := by
  have b7 := fmod_bounds (x.fdiv 36) 7 (by decide)
  have hk : ((x.fdiv 36).fmod 7).toNat < 7 := by omega
  unfold tailOf tails stageOf
  generalize ((x.fdiv 36).fmod 7).toNat = k at hk
  have key : ∀ k : Nat, k < 7 → let a := tails.getD k Str.empty; let b := ([0, 10, 20, 30, 50, 100, 200] : List Int).getD k 0; (a = Str.empty ∧ b = 0) ∨ (a = Str.ofString "dev" ∧ b = 10) ∨ (a = Str.ofString "a" ∧ b = 20) ∨ (a = Str.ofString "b" ∧ b = 30) ∨
    (a = Str.ofString "rc" ∧ b = 50) ∨ (a = Str.ofString "." ∧ b = 100) ∨ (a = Str.ofString "pl" ∧ b = 200) := by decide +kernel
  exact key k hk

theorem lets {x : Str} (h : x ∈ badWords) : ∀ c ∈ x.cps.toList, isL c := by
  have key : ∀ x ∈ badWords, x.cps.toList.all (fun c => !isD c && !isS c) = true := by decide +kernel
  intro c hc
  have := List.all_eq_true.mp (key x h) c hc
  simpa [isL] using this

def restPs (x : Int) (D3 : List Nat) : List (List Nat) :=
  if tailOf x = Str.empty then [[]] else if tailOf x = Str.ofString "." then [[], [46], [], D3, []] else [(tailOf x).cps.toList, D3, []]

theorem app_list (a b : Str) : (a ++ b).cps.toList = a.cps.toList ++ b.cps.toList := by
  show (a.cps ++ b.cps).toList = _
  simp

theorem spelled_pieces (x : Int) : ∃ ps, Spl (spelled x).cps.toList ps ∧ Pcs ps (td x) ∧ ps.length ≤ 400 ∧ (spelled x).cps.size < 4096 := by
  have b3 := fmod_bounds x 3 (by decide)
  have b12 := fmod_bounds (x.fdiv 3) 12 (by decide)
  have b12' := fmod_bounds (x.fdiv 252) 12 (by decide)
  obtain ⟨n1, l1⟩ := isNum_numS b3.1 (by omega)
  obtain ⟨n2, l2⟩ := isNum_numS b12.1 b12.2
  obtain ⟨n3, l3⟩ := isNum_numS b12'.1 b12'.2
  have hsg := sgn_ok x
  have hlist : (spelled x).cps.toList = [] ++ ((numS (x.fmod 3)).cps.toList ++ ([] ++ (sgnOf x :: ([] ++ ((zerosOf x).cps.toList ++ (numS ((x.fdiv 3).fmod 12)).cps.toList ++ ((tailOf x).cps.toList ++ (lastOf x).cps.toList)))))) := by
    unfold spelled
    simp only [app_list]
    simp
  have hz : IsNum ((zerosOf x).cps.toList ++ (numS ((x.fdiv 3).fmod 12)).cps.toList) ((x.fdiv 3).fmod 12) := by
    unfold zerosOf
    split
    · have : (Str.ofString "0").cps.toList = [48] := by decide +kernel
      rw [this]; exact n2.zero l2
    · have : (Str.empty).cps.toList = [] := by decide +kernel
      rw [this]; exact n2
  have fin : ∃ rp, Spl ((tailOf x).cps.toList ++ (lastOf x).cps.toList) rp ∧ Pcs rp (tdTail x) ∧ rp.length ≤ 5 ∧ (∀ c, ((tailOf x).cps.toList ++ (lastOf x).cps.toList).head? = some c → isD c = false) ∧ ((tailOf x).cps.toList ++ (lastOf x).cps.toList).length ≤ 6 := by
    by_cases h0 : tailOf x = Str.empty
    · refine ⟨[[]], ?_, ?_, by simp, ?_, ?_⟩
      · unfold lastOf; rw [if_pos h0, h0]
        exact .done (by intro c hc; cases hc)
      · unfold tdTail; rw [if_pos h0]
        exact .cons (ts := []) (us := []) .nil .nil
      · unfold lastOf; rw [if_pos h0, h0]; intro c hc; cases hc
      · unfold lastOf; rw [if_pos h0, h0]; decide
    · have hl : (lastOf x).cps.toList = (numS ((x.fdiv 252).fmod 12)).cps.toList := by unfold lastOf; rw [if_neg h0]
      have sp3 : Spl (numS ((x.fdiv 252).fmod 12)).cps.toList [[], (numS ((x.fdiv 252).fmod 12)).cps.toList, []] := by
        have := Spl.digits (ls := []) (ds := (numS ((x.fdiv 252).fmod 12)).cps.toList) (r := []) (ps := [[]]) (by intro c hc; cases hc) n3.ne n3.dg (by intro c hc; cases hc) (.done (by intro c hc; cases hc))
        simpa using this
      by_cases h1 : tailOf x = Str.ofString "."
      · have hd : (tailOf x).cps.toList = [46] := by rw [h1]; decide +kernel
        refine ⟨[[], [46], [], (numS ((x.fdiv 252).fmod 12)).cps.toList, []], ?_, ?_, by simp, ?_, ?_⟩
        · rw [hl, hd]
          exact Spl.sign (ls := []) (c := 46) (by intro c hc; cases hc) (by decide) (by decide +kernel) sp3
        · unfold tdTail; rw [if_neg h0, if_pos h1]
          exact .cons (ts := []) .nil (.cons (ts := []) (.sign (.inl rfl)) (.cons (ts := []) .nil (.cons (ts := [.inl 100, .inl _]) (us := []) n3.pc (.cons (ts := []) (us := []) .nil .nil))))
        · rw [hd]; intro c hc; cases hc; decide
        · rw [hl, hd, List.length_append]
          show 1 + _ ≤ 6
          omega
      · have hst : tailOf x ∈ badWords ∧ (tailOf x, stageOf x) ∈ stageTab := by
          rcases tail_stage x with ⟨a, b⟩ | ⟨a, b⟩ | ⟨a, b⟩ | ⟨a, b⟩ | ⟨a, b⟩ | ⟨a, b⟩ | ⟨a, b⟩
          · exact absurd a h0
          · rw [a, b]; exact ⟨by simp [badWords], by simp [stageTab]⟩
          · rw [a, b]; exact ⟨by simp [badWords], by simp [stageTab]⟩
          · rw [a, b]; exact ⟨by simp [badWords], by simp [stageTab]⟩
          · rw [a, b]; exact ⟨by simp [badWords], by simp [stageTab]⟩
          · exact absurd a h1
          · rw [a, b]; exact ⟨by simp [badWords], by simp [stageTab]⟩
        refine ⟨[(tailOf x).cps.toList, (numS ((x.fdiv 252).fmod 12)).cps.toList, []], ?_, ?_, by simp, ?_, ?_⟩
        · rw [hl]
          have := Spl.digits (ls := (tailOf x).cps.toList) (ds := (numS ((x.fdiv 252).fmod 12)).cps.toList) (r := []) (ps := [[]]) (lets hst.1) n3.ne n3.dg (by intro c hc; cases hc) (.done (by intro c hc; cases hc))
          simpa using this
        · unfold tdTail; rw [if_neg h0, if_neg h1]
          exact .cons (ts := [.inl _, .inr _]) (.word hst.1 hst.2) (.cons (ts := [.inl 100, .inl _]) (us := []) n3.pc (.cons (ts := []) (us := []) .nil .nil))
        · intro c hc
          obtain ⟨c', r', he, _⟩ := bad_head hst.1
          rw [he] at hc
          have : c' = c := by simpa using hc
          subst this
          exact (lets hst.1 c' (by rw [he]; exact List.mem_cons_self)).1
        · rw [hl, List.length_append]
          have : (tailOf x).cps.toList.length ≤ 3 := by rw [Array.length_toList]; exact tail_len x
          omega
  obtain ⟨rp, s1, s2, s3, s4, s5⟩ := fin
  refine ⟨[] :: (numS (x.fmod 3)).cps.toList :: [] :: [sgnOf x] :: [] :: ((zerosOf x).cps.toList ++ (numS ((x.fdiv 3).fmod 12)).cps.toList) :: rp, ?_, ?_, by simp; omega, ?_⟩
  · rw [hlist]
    refine .digits (by intro c hc; cases hc) n1.ne n1.dg (by intro c hc; cases hc; exact hsg.1) ?_
    exact .sign (by intro c hc; cases hc) hsg.1 hsg.2 (.digits (by intro c hc; cases hc) hz.ne hz.dg s4 s1)
  · unfold td
    exact .cons (ts := []) .nil (.cons (ts := [.inl 100, .inl _]) n1.pc (.cons (ts := []) .nil (.cons (ts := []) (.sign (sgn_cases x)) (.cons (ts := []) .nil (.cons (ts := [.inl 100, .inl _]) hz.pc s2)))))
  · rw [← Array.length_toList, hlist]
    simp only [List.length_append, List.length_cons, List.nil_append, List.length_nil]
    have := hz.len
    simp only [List.length_append] at this s5
    omega
end Mine
end

section
open PySem PySem.W PyProof.Rows PySem.SeqAt PySem.Calls PySem.NumText
set_option Elab.async false
set_option maxRecDepth 100000
namespace Mine

theorem lex_cons (le : Bool) (a b : Int) (as bs : List TV) : lexC le (.inl a :: as) (.inl b :: bs) = if a = b then lexC le as bs else some (ordC le a b) := by
  rw [lexC]
  by_cases h : a = b
  · subst h; rw [if_pos rfl, if_pos rfl]
  · rw [if_neg h, if_neg (by intro q; exact h (Sum.inl.inj q))]; rfl
theorem lex_same (le : Bool) (w : Str) (as bs : List TV) : lexC le (.inr w :: as) (.inr w :: bs) = lexC le as bs := by
  rw [lexC]; simp
theorem lex_nil (le : Bool) : lexC le [] [] = some (ordC le 0 0) := by cases le <;> rfl
theorem lex_short (le : Bool) (b : TV) (bs : List TV) : lexC le [] (b :: bs) = some true := by cases le <;> simp [lexC, ordN]
theorem lex_long (le : Bool) (b : TV) (bs : List TV) : lexC le (b :: bs) [] = some false := by cases le <;> simp [lexC, ordN]

theorem ordC_eq {le : Bool} {a b c d : Int} (h1 : a < b ↔ c < d) (h2 : a ≤ b ↔ c ≤ d) : ordC le a b = ordC le c d := by
  cases le <;> simp only [ordC, if_true, Bool.false_eq_true, if_false] <;> exact decide_eq_decide.mpr (by assumption)

/-- one number that tells a worth -/
def dd (x : Int) : Int := if stageOf x > 0 then (x.fdiv 252).fmod 12 else 0
def rk (x : Int) : Int := ((x.fmod 3 * 12 + (x.fdiv 3).fmod 12) * 300 + stageOf x) * 12 + dd x

structure Bd (x : Int) : Prop where
  a : 0 ≤ x.fmod 3 ∧ x.fmod 3 < 3
  b : 0 ≤ (x.fdiv 3).fmod 12 ∧ (x.fdiv 3).fmod 12 < 12
  s : 0 ≤ stageOf x ∧ stageOf x ≤ 200
  d : 0 ≤ dd x ∧ dd x < 12
theorem bd (x : Int) : Bd x := by
  have b12' := fmod_bounds (x.fdiv 252) 12 (by decide)
  refine ⟨fmod_bounds x 3 (by decide), fmod_bounds (x.fdiv 3) 12 (by decide), ?_, ?_⟩
  · rcases tail_stage x with ⟨_, b⟩ | ⟨_, b⟩ | ⟨_, b⟩ | ⟨_, b⟩ | ⟨_, b⟩ | ⟨_, b⟩ | ⟨_, b⟩ <;> omega
  · unfold dd; split <;> omega

theorem wd_lex (le : Bool) (x y : Int) : lexC le (wd x) (wd y) = some (ordC le (rk x) (rk y)) := by
  have bx := bd x; have b_y := bd y
  have e : ∀ z, wd z = [.inl (z.fmod 3), .inl ((z.fdiv 3).fmod 12), .inl (stageOf z), .inl (dd z)] := fun z => rfl
  rw [e, e, lex_cons, lex_cons, lex_cons, lex_cons, lex_nil]
  obtain ⟨⟨a1, a2⟩, ⟨a3, a4⟩, ⟨a5, a6⟩, ⟨a7, a8⟩⟩ := bx
  obtain ⟨⟨c1, c2⟩, ⟨c3, c4⟩, ⟨c5, c6⟩, ⟨c7, c8⟩⟩ := b_y
  unfold rk
  generalize x.fmod 3 = p1 at *
  generalize (x.fdiv 3).fmod 12 = p2 at *
  generalize stageOf x = p3 at *
  generalize dd x = p4 at *
  generalize y.fmod 3 = q1 at *
  generalize (y.fdiv 3).fmod 12 = q2 at *
  generalize stageOf y = q3 at *
  generalize dd y = q4 at *
  split
  · split
    · split
      · split
        · exact congrArg some (ordC_eq (by omega) (by omega))
        · exact congrArg some (ordC_eq (by omega) (by omega))
      · exact congrArg some (ordC_eq (by omega) (by omega))
    · exact congrArg some (ordC_eq (by omega) (by omega))
  · exact congrArg some (ordC_eq (by omega) (by omega))

theorem tail_lex (le : Bool) (x y : Int) : lexC le (tdTail x) (tdTail y) = some (ordC le (stageOf x * 12 + dd x) (stageOf y * 12 + dd y)) := by
  have bx := (bd x).d; have b_y := (bd y).d
  have hx : (stageOf x = 0 ∧ tdTail x = [] ∧ dd x = 0) ∨ (stageOf x = 100 ∧ tdTail x = [.inl 100, .inl (dd x)]) ∨ (0 < stageOf x ∧ stageOf x ≠ 100 ∧ tdTail x = [.inl (stageOf x), .inr (tailOf x), .inl 100, .inl (dd x)]) := by
    rcases tail_stage x with ⟨a, b⟩ | ⟨a, b⟩ | ⟨a, b⟩ | ⟨a, b⟩ | ⟨a, b⟩ | ⟨a, b⟩ | ⟨a, b⟩
    · left; exact ⟨b, by unfold tdTail; rw [if_pos a], by unfold dd; rw [if_neg (by omega)]⟩
    all_goals first
      | (right; right; exact ⟨by omega, by omega, by unfold tdTail dd; rw [if_neg (by rw [a]; decide +kernel), if_neg (by rw [a]; decide +kernel), if_pos (by omega)]⟩)
      | (right; left; exact ⟨b, by unfold tdTail dd; rw [if_neg (by rw [a]; decide +kernel), if_pos a, if_pos (by omega)]⟩)
  have hy : (stageOf y = 0 ∧ tdTail y = [] ∧ dd y = 0) ∨ (stageOf y = 100 ∧ tdTail y = [.inl 100, .inl (dd y)]) ∨ (0 < stageOf y ∧ stageOf y ≠ 100 ∧ tdTail y = [.inl (stageOf y), .inr (tailOf y), .inl 100, .inl (dd y)]) := by
    rcases tail_stage y with ⟨a, b⟩ | ⟨a, b⟩ | ⟨a, b⟩ | ⟨a, b⟩ | ⟨a, b⟩ | ⟨a, b⟩ | ⟨a, b⟩
    · left; exact ⟨b, by unfold tdTail; rw [if_pos a], by unfold dd; rw [if_neg (by omega)]⟩
    all_goals first
      | (right; right; exact ⟨by omega, by omega, by unfold tdTail dd; rw [if_neg (by rw [a]; decide +kernel), if_neg (by rw [a]; decide +kernel), if_pos (by omega)]⟩)
      | (right; left; exact ⟨b, by unfold tdTail dd; rw [if_neg (by rw [a]; decide +kernel), if_pos a, if_pos (by omega)]⟩)
  have hw : stageOf x = stageOf y → tailOf x = tailOf y := fun h => by
    rcases tail_stage x with ⟨a, b⟩ | ⟨a, b⟩ | ⟨a, b⟩ | ⟨a, b⟩ | ⟨a, b⟩ | ⟨a, b⟩ | ⟨a, b⟩ <;>
    rcases tail_stage y with ⟨a', b'⟩ | ⟨a', b'⟩ | ⟨a', b'⟩ | ⟨a', b'⟩ | ⟨a', b'⟩ | ⟨a', b'⟩ | ⟨a', b'⟩ <;>
    first | (exfalso; omega) | (rw [a, a'])
  have sx := (bd x).s; have sy := (bd y).s
  have tr : ∀ {a b : Int}, a < b → some true = some (ordC le a b) := fun {a b} h => by cases le <;> simp only [ordC, if_true, Bool.false_eq_true, if_false] <;> simp <;> omega
  have fl : ∀ {a b : Int}, b < a → some false = some (ordC le a b) := fun {a b} h => by cases le <;> simp only [ordC, if_true, Bool.false_eq_true, if_false] <;> simp <;> omega
  rcases hx with ⟨s1, t1, d1⟩ | ⟨s1, t1⟩ | ⟨p1, s1, t1⟩ <;> rcases hy with ⟨s2, t2, d2⟩ | ⟨s2, t2⟩ | ⟨p2, s2, t2⟩ <;> rw [t1, t2]
  · rw [lex_nil]; exact congrArg some (ordC_eq (by omega) (by omega))
  · rw [lex_short]; exact tr (by omega)
  · rw [lex_short]; exact tr (by omega)
  · rw [lex_long]; exact fl (by omega)
  · rw [lex_cons, if_pos rfl, lex_cons, lex_nil]
    split <;> exact congrArg some (ordC_eq (by omega) (by omega))
  · rw [lex_cons, if_neg (by omega)]; exact congrArg some (ordC_eq (by omega) (by omega))
  · rw [lex_long]; exact fl (by omega)
  · rw [lex_cons, if_neg (by omega)]; exact congrArg some (ordC_eq (by omega) (by omega))
  · rw [lex_cons]
    split
    · rename_i he
      rw [hw he, lex_same, lex_cons, if_pos rfl, lex_cons, lex_nil]
      split <;> exact congrArg some (ordC_eq (by omega) (by omega))
    · exact congrArg some (ordC_eq (by omega) (by omega))

theorem td_lex (le : Bool) (x y : Int) : lexC le (td x) (td y) = some (ordC le (rk x) (rk y)) := by
  have bx := bd x; have b_y := bd y
  have e : ∀ z, td z = .inl 100 :: .inl (z.fmod 3) :: .inl 100 :: .inl ((z.fdiv 3).fmod 12) :: tdTail z := fun z => rfl
  rw [e, e, lex_cons, if_pos rfl, lex_cons, lex_cons, if_pos rfl, lex_cons, tail_lex]
  obtain ⟨⟨a1, a2⟩, ⟨a3, a4⟩, ⟨a5, a6⟩, ⟨a7, a8⟩⟩ := bx
  obtain ⟨⟨c1, c2⟩, ⟨c3, c4⟩, ⟨c5, c6⟩, ⟨c7, c8⟩⟩ := b_y
  unfold rk
  split
  · split
    · exact congrArg some (ordC_eq (by omega) (by omega))
    · exact congrArg some (ordC_eq (by omega) (by omega))
  · exact congrArg some (ordC_eq (by omega) (by omega))

theorem lex_refl : ∀ (l : List TV), lexC false l l = some false
  | [] => rfl
  | a :: l => by rw [lexC, if_pos rfl]; exact lex_refl l
theorem lex_refl_le : ∀ (l : List TV), lexC true l l = some true
  | [] => rfl
  | a :: l => by rw [lexC, if_pos rfl]; exact lex_refl_le l
/-- like lists, like numbers -/
theorem lex_eq : ∀ {as bs : List TV}, lexC true as bs = some true → lexC true bs as = some true → as = bs
  | [], [], _, _ => rfl
  | [], b :: bs, _, h => by rw [lex_long] at h; cases h
  | a :: as, [], h, _ => by rw [lex_long] at h; cases h
  | a :: as, b :: bs, h1, h2 => by
    rw [lexC] at h1 h2
    by_cases e : a = b
    · subst e
      rw [if_pos rfl] at h1 h2
      rw [lex_eq h1 h2]
    · rw [if_neg e] at h1
      rw [if_neg (Ne.symm e)] at h2
      exfalso
      cases a with
      | inl m =>
        cases b with
        | inl n =>
          simp only [difC, ordC, if_true, Option.some.injEq, decide_eq_true_eq] at h1 h2
          exact e (congrArg Sum.inl (Int.le_antisymm h1 h2))
        | inr _ => cases h1
      | inr _ => cases b <;> cases h1
theorem td_eq (x y : Int) : td x = td y ↔ rk x = rk y := by
  constructor
  · intro h
    have h1 := td_lex true x y
    have h2 := td_lex true y x
    rw [h, lex_refl_le] at h1
    rw [← h, lex_refl_le] at h2
    simp only [ordC, if_true, Option.some.injEq] at h1 h2
    have := of_decide_eq_true h1.symm
    have := of_decide_eq_true h2.symm
    omega
  · intro h
    refine lex_eq ?_ ?_ <;> rw [td_lex, h] <;> simp [ordC]
theorem wd_eq (x y : Int) : wd x = wd y ↔ rk x = rk y := by
  constructor
  · intro h
    have h1 := wd_lex true x y
    have h2 := wd_lex true y x
    rw [h, lex_refl_le] at h1
    rw [← h, lex_refl_le] at h2
    simp only [ordC, if_true, Option.some.injEq] at h1 h2
    have := of_decide_eq_true h1.symm
    have := of_decide_eq_true h2.symm
    omega
  · intro h
    refine lex_eq ?_ ?_ <;> rw [wd_lex, h] <;> simp [ordC]
end Mine
end

section
open PySem PySem.W PyProof.Rows PySem.SeqAt PySem.Calls
set_option Elab.async false
set_option maxRecDepth 100000
namespace Mine
open Sem (wp)

/-! The head of an open law, for the caller's own stack. -/

theorem endsC {prog : Program} {w : World} {t : Sem Fin} {s : Shared} {R : Result → Shared → Prop} (hreg : s.asleep)
    (h : wpC (model prog w) callerA t (fun fin s' => ∃ f, fin = .done f ∧ (R (.ok f) s' ∧ leftWithCleanup s'.gens = false)) (fun e s' => R (.error e) s' ∧ leftWithCleanup s'.gens = false) s) :
    ∃ n r s' s'', runN (denote table) prog w n s ⟨t, .builtin "claim.caller" {}, default, []⟩ = .halted (outcomeOf r) s' ∧
      schedN (denote table) prog w n (.single s ⟨t, .builtin "claim.caller" {}, default, []⟩) = .halted (outcomeOf r) s' ∧ s'.forget = s''.forget ∧ R r s'' := by
  have hw : wp (model prog w) ⟨.builtin "claim.caller" {}, none, none, [], none⟩ t (Sem.finPost (model prog w) ⟨.builtin "claim.caller" {}, none, none, [], none⟩ (fun r s' => R r s' ∧ leftWithCleanup s'.gens = false)) (fun e _ s' => R (.error e) s' ∧ leftWithCleanup s'.gens = false) default s := by
    refine Sem.wp_mono _ _ t (fun fin p' s' h' => ?_) (fun _ _ _ h' => h') default s (h _ default caller_in (.inl rfl))
    obtain ⟨f, rfl, hf⟩ := h'
    exact hf
  obtain ⟨n, r, s₁, s₂, hs, hn, hfo, hR⟩ := wp_halts_full (M := model prog w) (R := R) hreg hw
  exact ⟨n, r, s₂, s₁, hn, hs, hfo, hR⟩

theorem callFromC {c : ClaimW} {tree : List Value → Sem Fin} {w : World} {s : Shared} {free : Addr → Prop} {gens : Prop} {kept : Heap → Prop} (hz : s.asleep) (hgens : s.gens = #[])
    (hspec : ∀ args, c.pre args = true → WData.layableAll args = true →
      ∀ ord : List DictEntry → List DictEntry, (∀ l, (ord l).Perm l) →
      ∃ vs s₁, layAllW c.records (classAt s.heap) w.params ord args s = some (vs, s₁) ∧
        wpC (model c.prog w) callerA (tree vs) (fun fin s' => ∃ f, fin = .done f ∧ (c.Ends s args vs s₁ (.ok f) s' ∧ s'.os = s.os ∧ AllBare s'.gens ∧ kept s'.heap))
          (fun e s' => c.Ends s args vs s₁ (.error e) s' ∧ s'.os = s.os ∧ AllBare s'.gens ∧ kept s'.heap) s₁) :
    c.CallFrom (fun vs => ⟨tree vs, .builtin "claim.caller" {}, default, []⟩) w free gens kept s := by
  intro args hpre hlay ord hord
  obtain ⟨vs, s₁, hlaid, hcode⟩ := hspec args hpre hlay ord hord
  have hal := layAllW_rest _ _ _ hlaid
  obtain ⟨k, r, s', s'', hrun, hsched, hfo, hcase, hos, hkp⟩ := endsC (prog := c.prog) (w := w) (t := tree vs) (s := s₁)
    (R := fun r s' => c.Ends s args vs s₁ r s' ∧ s'.os = s.os ∧ kept s'.heap) (Shared.asleep_of_life hal.2.2.2 hz)
    (wpC_mono hcode (by
      rintro fin s' ⟨f, e, h1, h2, h3, h4⟩
      exact ⟨f, e, ⟨h1, h2, h4⟩, leftWithCleanup_false_of_bare h3⟩) (by
      rintro e s' ⟨h1, h2, h3, h4⟩
      exact ⟨⟨h1, h2, h4⟩, leftWithCleanup_false_of_bare h3⟩))
  obtain ⟨eh, _, _, eo, _⟩ := Shared.forget_eq hfo
  have hcase := hcase.congr eh
  rw [← eh] at hkp
  rw [← eo] at hos
  have hlife : s'.heap.life = s.heap.life := (runN_life _ _ _ hrun).trans hal.2.2.2
  refine ⟨vs, s₁, hlaid, k, _, s', hsched, ?_, (fun _ i x hx => by rw [hgens] at hx; simp at hx), hkp, by rw [hlife], Shared.rest_eq hos⟩
  rcases hcase with ⟨v, rfl, d1, d2, d3, d4, d5⟩ | ⟨e, ob, cls, rfl, d1, d2, d3, d4, d5⟩
  · exact .inl ⟨v, rfl, d1, d2, d3, fun b o y _ => d4 b o y, d5⟩
  · exact .inr ⟨e, ob, cls, rfl, d1, d2, d3, d4, fun b o y _ => d5 b o y⟩

abbrev WalkC (q : Program) (loose : List Str) (XP : (Str → Option Value) → Heap → Prop) (YP : World → Heap → Prop) (r : RowW) (d : DefRec) (kwd : List (Str × Expr)) (run : Value → List Value → Sem Value) : Prop :=
  ∀ (w : World) (s₀ s₁ : Shared) (mg mb : Str → Option Value), Ground q loose r.records XP w s₀ mg mb s₁.heap → YP w s₁.heap → ∀ (a : Addr) (o : Obj) (pm cd doc dV kV : Value), s₁.heap.get? a = some o →
    o.data = .func { docDef d.name d.params d.body d.scope pm cd doc with defaults := dV, kwdefaults := kV } → s₁.heap.CodeRec cd d.name → Dflts mg s₁.heap d.params kwd dV kV → mg d.name = some (.ref a) → s₁.gens = #[] →
    ∀ (args : List WData) (vals : List Value) (as : List Addr), r.claim.pre args = true → WData.layableAll args = true → ReadsAllW r.records (classAt s₀.heap) s₁.heap vals args as → WellAll w.params s₁.heap vals args → (∀ a ∈ as, (a == sysModules) = false) →
      wpC (model r.prog w) callerA (run (.ref a) vals) (fun v s' => GoodWG r.claim (classAt s₀.heap) (ExcName.means s₀.heap) args s₁ (.ok (.ret v)) s')
        (fun e s' => GoodWG r.claim (classAt s₀.heap) (ExcName.means s₀.heap) args s₁ (.error e) s') s₁

end Mine

namespace Mine.PySem.W
open Sem (wp)
theorem holds_open {r : OpenRow} {q : Program} {loose : List Str} {Xt : Shared → Bool} {XP : (Str → Option Value) → Heap → Prop} {α : Type} {Yf : Shared → α} {Ya : World → α} {YP : World → Heap → Prop} {d : DefRec} {kwd : List (Str × Expr)} {N : Nat}
    (left : LeftO r.prog q loose Xt Yf Ya N) (hY : ∀ w s, Yf s = Ya w → YP w s.heap) (hYk : ∀ w h h', YP w h → (∀ b o, h.get? b = some o → h'.get? b = some o) → YP w h')
    (hX : ∀ s, Xt s = true → XP (s.heap.nsMap mainGlobals) s.heap) (hXk : ∀ mg h h', XP mg h → (∀ b o, h.get? b = some o → h'.get? b = some o) → XP mg h')
    (hdef : defOf q r.name = some (d, kwd)) (hp : r.prog.theDef r.name = some (d.params, d.body, d.scope)) (hk : kwWritten? d.params.kwonlyargs d.params.kw_defaults = some kwd) (hRf : ∀ s, Xt s = true → RecFacts r.records s.heap) (hwr : (!r.writes || r.records.isEmpty) = true)
    (k1 : r.wellSaid = true) (ok : (chainsOk q && opensWell r.prog && (frees r.toRowW && r.within.isEmpty)) = true) (hb : r.prog.bare) (hw : r.toRowW.promised)
    (call : WalkC q loose XP YP r.toRowW d kwd fun f vs => _root_.PySem.call f vs) : r.Holds := by
  refine ⟨k1, hw, ?_⟩
  obtain ⟨ok, k5⟩ := Bool.and_eq_true_iff.mp ok
  obtain ⟨hch, o1⟩ := Bool.and_eq_true_iff.mp ok
  obtain ⟨k5, k6⟩ := Bool.and_eq_true_iff.mp k5
  obtain ⟨hsame, hu, ha, hap, hm⟩ := frees_parts k5
  refine ⟨⟨hb, o1, by show r.makers.map _ = []; rw [hm]; rfl⟩, hw.witness, fun w => ⟨(left.behind hX hch w).1, fun s' hs' => ?_⟩⟩
  obtain ⟨s₀, hf, hg0, s, hT, hz, hgens, hg, G00, y⟩ := (left.behind (XP := fun mg h => XP mg h ∧ RecFacts r.records h) (fun s hs => ⟨hX s hs, hRf s hs⟩) hch w).2 s' hs'
  have G0 : Ground q loose [] XP w s (s.heap.nsMap mainGlobals) (s.heap.nsMap builtinsNs) s.heap := ⟨G00.T, G00.B, G00.D, G00.TE, G00.TD, G00.W, G00.X.1, G00.cls, G00.has, G00.apart, G00.once, G00.K⟩
  have RF := G00.X.2
  have hT' := hT
  refine ⟨s₀, hf, hg0, s, hT, ?_, RF.1, RF.2.1, ?_⟩
  · intro n hn
    obtain rfl : n = r.name := by split at hn <;> simp_all
    exact pinned_of_view hg G0 hdef hp hk
  have hgens : s.gens = #[] := Array.eq_empty_of_size_eq_zero (beq_iff_eq.mp hgens)
  have G : Ground q loose r.records XP w s _ _ s.heap := RF.ground G0
  refine callFromC (c := r.claim) hz hgens fun args hpre hlay ord hord => ?_
  obtain ⟨⟨vs, s₁⟩, hlaid⟩ := Option.isSome_iff_exists.mp (layAllW_isSome (P := w.params) (ord := ord) G.has args r.args s (pre_splitW hpre).1)
  have keeps := layAllW_keeps _ _ _ hlaid
  have hal := layAllW_rest _ _ _ hlaid
  obtain ⟨as, hrd, hin, hold⟩ := reads_layAllW hord _ _ _ hlaid hlay s₁.heap (fun _ _ e => e)
  have L : Laid r.records w s s₁ args vs as := ⟨⟨ord, hord, hlaid⟩, hrd, hin, hold, keeps, hal.1.trans hgens, hal.2.2.1⟩
  have G₁ := G.keeps hXk keeps
  have Y₁ := hYk _ _ _ (hY w s y) keeps
  obtain ⟨a, o, pm, cd, doc, dV, kV, h1, h2, h3, h4, h5⟩ := G₁.fn hdef
  have h := call w s s₁ _ _ G₁ Y₁ a o pm cd doc dV kV h2 h3 h4 h5 (defOf_name hdef ▸ h1) L.gens args vs as hpre hlay L.reads L.well (L.low G.low)
  have hi := ident_freeW hu ha hap
  have hwi : r.claim.within = [] := List.isEmpty_iff.mp k6
  refine ⟨vs, s₁, hlaid, wpC_then (wpAny_nsGet G₁.T.g ?_)⟩
  rw [h1]
  refine wpC_bind (wpC_mono h (fun v s' g => wpC_pure ⟨_, rfl, ?_⟩) fun e s' g => ?_)
  · have z := g.laid (c := r.claim) hsame hwi hi L
    exact ⟨z.1, z.2.1, z.2.2, fun q => ⟨namesKept_of hT' hg _ keeps g.2.1.old, noTable hwr q⟩⟩
  · have z := g.laid (c := r.claim) hsame hwi hi L
    exact ⟨z.1, z.2.1, z.2.2, fun q => ⟨namesKept_of hT' hg _ keeps g.2.1.old, noTable hwr q⟩⟩
end Mine.PySem.W
end

section
open PySem PySem.W PyProof.Rows PySem.SeqAt PySem.Calls
set_option Elab.async false
set_option maxRecDepth 100000
namespace Mine

section
variable {prog : Program} {w : World} {A : Around} {n₁ : Nat}

/-- behind a comprehension: its own names are let go -/
def compPostC (M : Model) (A : Around) (E : Value → Shared → Prop) (use : Option (Value → Sem Unit)) (Q : Value → Shared → Prop) (acc : Value) (C : Addr) (r : Result) (s' : Shared) : Prop :=
  match r, use with
  | .ok _, none => ∃ m, s'.heap.Ns C m ∧ ∀ h', Heap.SameBut C s'.heap h' → Q acc { s' with heap := h' }
  | .ok _, some u => wpAny M A (u acc) (fun _ s'' => ∃ m, s''.heap.Ns C m ∧ ∀ h', Heap.SameBut C s''.heap h' → Q .none { s'' with heap := h' }) E s'
  | .error _, _ => False

theorem codeC_compStart {elt target iter : Expr} {ifs : List Expr} {rest : List Comprehension} {scope : Scope} {pos : Pos} {it acc : Value} {env : Env} {R : Result → Shared → Prop} {s : Shared}
    (h0 : codeC (model prog w) A (.compLoop (.ListComp elt (⟨target, iter, ifs, 0⟩ :: rest) scope pos) 0 it acc env) R s)
    (h : wpAny (model prog w) A (pyIter it) (fun it' s' => codeC (model prog w) A (.compLoop (.ListComp elt (⟨target, iter, ifs, 0⟩ :: rest) scope pos) 0 it' acc env) R s')
      (notedBy (model prog w) A env fun x s' => R (.error x) s') s) :
    codeC (model prog w) A (.compStart (.ListComp elt (⟨target, iter, ifs, 0⟩ :: rest) scope pos) 0 it acc env) R s := by
  refine codeC_of_tree ?_
  show wpC _ _ ((compStart (.ListComp elt (⟨target, iter, ifs, 0⟩ :: rest) scope pos) 0 it acc env).onRaise (fun x => do noteFrame x env; standAt theWindowsPlace)) _ _ s
  refine wpC_onRaise (wpC_mono (E := notedBy (model prog w) A env fun x s' => R (.error x) s') ?_ (fun _ _ q => q) fun _ _ hx => wpC_of (wpAny_bind (wpAny_mono hx (fun _ _ e => wpAny_standAt e) fun _ _ e => e)))
  unfold compStart
  show wpC _ _ (ask >>= _) _ _ s
  refine wpC_then (wpAny_askSetting ?_)
  split
  · first
      | exact wpC_bind (wpC_pure (wpC_pure (And.intro rfl h0)))
      | exact wpC_pure (And.intro rfl h0)
  · first
      | exact wpC_then (wpAny_rule (wpC_then (wpAny_standAt (wpC_then (wpAny_mono h (fun it' s' h' => wpC_pure (And.intro rfl h')) fun _ _ x => x)))))
      | (refine wpC_then (wpAny_rule ?_); show wpC _ _ (standAt iter.pos >>= _) _ _ s; exact wpC_then (wpAny_standAt (wpC_then (wpAny_mono h (fun it' s' h' => wpC_pure (And.intro rfl h')) fun _ _ x => x))))

theorem standIfC {α : Type} {c : Prop} [Decidable c] {p : Pos} {k : PUnit → Sem α} {Q : α → Shared → Prop} {E : Value → Shared → Prop} {s : Shared} (h : wpC (model prog w) A (k ()) Q E s) :
    wpC (model prog w) A (if c then (standAt p >>= k) else k ()) Q E s := by
  split
  · exact wpC_then (wpAny_standAt h)
  · exact h
theorem compC_free {e : Expr} {scope : Scope} {pos : Pos} {newAcc first : Sem Value} {g : Comprehension} {gs : List Comprehension} {cl : List (Str × Addr)} {use : Option (Value → Sem Unit)} {E : Value → Shared → Prop} {env : Env} {s : Shared}
    {Q : Value → Shared → Prop}
    (hcl : clausesOf e = g :: gs) (hs : ∀ x, foldedSetIterable g.iter env x = pure x) (hclos : closureFor scope env = pure cl)
    (hkind : scope.kind = .function) (hnames : ∀ x ∈ scope.names, x.2 = .local → scope.names.lookup x.1 = some .local)
    (h : wpAny (model prog w) A first (fun x s₁ => wpAny (model prog w) A (pyIter x) (fun it s₂ => wpAny (model prog w) A newAcc (fun acc s₃ =>
      wpAny (model prog w) A (newFunctionEnv scope env.globals cl [] env.qual none .none (some env)) (fun cenv s₄ =>
        codeC (model prog w) A (.compStart e 0 it acc { cenv with scope := relabel scope env }) (compPostC (model prog w) A E use Q acc cenv.locals) s₄) E s₃) E s₂) E s₁) E s) :
    wpC (model prog w) A (comprehension e scope env pos newAcc false first use) Q E s := by
  unfold comprehension
  rw [hclos, hcl]
  refine wpC_then (wpAny_mono h (fun x s₁ h₁ => wpC_then (wpAny_standAt (wpC_bind (wpC_of_eq (hs x) (wpC_then (wpAny_holding (wpAny_mono h₁ (fun it s₂ h₂ =>
    standIfC (wpC_then (wpAny_mono h₂ (fun acc s₃ h₃ => wpC_then (wpAny_pure (wpC_then (wpAny_mono h₃ (fun cenv s₄ h₄ => ?_) fun _ _ h' => h')))) fun _ _ h' => h')))
      fun _ _ h' => h'))))))) fun _ _ h' => h')
  dsimp only
  have hv : ∀ x ∈ (scope.names.filter fun x => (x.2 == .local || x.2 == .cell) && x.1 != (".0" : Str)).reverse, x.2 = .local →
      Env.kindOf { cenv with scope := relabel scope env } x.1 = some .local := fun x hx hl => lookup_relabel_local (hnames x (List.mem_filter.mp (List.mem_reverse.mp hx)).1 hl)
  have hv' : ∀ x ∈ (scope.names.filter fun x => (x.2 == .local || x.2 == .cell) && x.1 != (".0" : Str)).reverse.drop 1 ++ (scope.names.filter fun x => (x.2 == .local || x.2 == .cell) && x.1 != (".0" : Str)).reverse.take 1,
      x.2 = .local → Env.kindOf { cenv with scope := relabel scope env } x.1 = some .local := fun x hx hl => by
    rcases List.mem_append.mp hx with h1 | h1
    · exact hv x (List.mem_of_mem_drop h1) hl
    · exact hv x (List.mem_of_mem_take h1) hl
  refine wpC_holding (wpC_bind (wpC_attempt (wpC_holding (wpC_run (codeC_mono h₄ fun r s' hr => ?_)))))
  cases r with
  | ok f =>
    cases use with
    | none =>
      obtain ⟨m, hn, hr⟩ := hr
      exact wpC_of (wpAny_bind (wpAny_holding (wpAny_comp_letGo (cenv := { cenv with scope := relabel scope env }) hkind _ s' m hv hn fun h' m' _ hs' => wpAny_pure (hr h' hs'))))
    | some u =>
      refine wpC_of (wpAny_bind (wpAny_rule (wpAny_bind (wpAny_holding (wpAny_mono hr (fun _ s'' hr' => ?_) fun _ _ h' => h')))))
      obtain ⟨m, hn, hr'⟩ := hr'
      exact wpAny_bind (wpAny_comp_letGo (cenv := { cenv with scope := relabel scope env }) hkind _ s'' m hv' hn fun h' m' _ hs' => wpAny_pure (hr' h' hs'))
  | error x => cases use <;> exact hr.elim

theorem compLoopC_go {elt target iter : Expr} {ifs : List Expr} {scope : Scope} {pos : Pos} {it acc : Value} {env : Env} {R : Result → Shared → Prop} {s : Shared} (I : Nat → Shared → Prop)
    (turn : ∀ n s, I n s → wpAny (model prog w) A (pyNext it) (fun r s₁ => match r with
      | none => R (.ok .next) s₁
      | some v => wpAny (model prog w) A (letOwnedTupleGo target it v) (fun _ s₁ => wpAny (model prog w) A (assign target env v) (fun _ s₂ =>
          wpAny (model prog w) A (forIn ifs true fun c r => if r = true then do let ok ← isTrue c env (eval c env); pure (ForInStep.yield ok) else pure (ForInStep.yield r)) (fun ok s₃ =>
            if ok = true then wpC (model prog w) A (eval elt env) (fun x s₄ =>
              wpAny (model prog w) A (call (.builtin "list.append") [acc, x]) (fun _ s₅ => ∃ m, m < n ∧ I m s₅) (notedBy (model prog w) A env fun e s' => R (.error e) s') s₄) (notedBy (model prog w) A env fun e s' => R (.error e) s') s₃
            else ∃ m, m < n ∧ I m s₃) (notedBy (model prog w) A env fun e s' => R (.error e) s') s₂) (notedBy (model prog w) A env fun e s' => R (.error e) s') s₁) (notedBy (model prog w) A env fun e s' => R (.error e) s') s₁) (notedBy (model prog w) A env fun e s' => R (.error e) s') s)
    (n : Nat) (h : I n s) :
    codeC (model prog w) A (.compLoop (.ListComp elt [⟨target, iter, ifs, 0⟩] scope pos) 0 it acc env) R s := by
  refine codeC_loop' rfl I (fun n s hI => ?_) n h
  show wpC _ A ((compTurn (.ListComp elt [⟨target, iter, ifs, 0⟩] scope pos) 0 it acc env).onRaise (fun x => do noteFrame x env; theTreesLotGoes x)) _ _ s
  refine wpC_noted ?_
  rw [compTurn_list]
  refine wpC_then (wpAny_standAt (wpC_then (wpAny_mono (turn n s hI) (fun r s₁ h₁ => ?_) fun _ _ h' => h')))
  cases r with
  | none => exact wpC_pure h₁
  | some v =>
    refine wpC_then (wpAny_mono h₁ (fun _ s₁ h₁ => ?_) fun _ _ h' => h')
    refine wpC_then (wpAny_mono h₁ (fun _ s₂ h₂ => wpC_then (wpAny_mono h₂ (fun ok s₃ h₃ => ?_) fun _ _ h' => h')) fun _ _ h' => h')
    cases ok with
    | false => exact wpC_pure (.inl ⟨rfl, h₃⟩)
    | true =>
      exact wpC_bind (wpC_bind (wpC_mono h₃ (fun x s₄ h₄ => wpC_then (wpAny_mono h₄ (fun _ s₅ h₅ => wpC_pure (wpC_pure (.inl ⟨rfl, h₅⟩))) fun _ _ h' => h')) fun _ _ h' => h'))

/-- A comprehension's loop by an invariant over what it has made. -/
theorem compC_loop {elt target iter : Expr} {ifs : List Expr} {scope : Scope} {pos : Pos} {I D C : Nat} {own : List (Str × Addr)} {cenv : Env} {fp : List Nat} {n : Nat} {P : Nat → Value → Prop} {St : Nat → Heap → Prop} {R : Result → Shared → Prop} {s : Shared}
    (W : Walks prog w A I fp [I] n P St) (hfp : ∀ i h b o, St i h → b ∈ fp → h.get? b = some o → ¬ Tabled o)
    (hfo : ∀ b ∈ fp, offOwn C own b) (hD : offOwn C own D) (hID : I ≠ D) (hDf : D ∉ fp)
    (Inv : Nat → List Value → Shared → Prop)
    (stable : ∀ i ys s s', Inv i ys s → KpOn n₁ (fun b => @Ne Nat b I ∧ @Ne Nat b D) s.heap s'.heap → s'.gens = s.gens → s'.os = s.os → Inv i ys s')
    (turn : ∀ i v ys s, i < n → P i v → Inv i ys s → OwnAt C own s.heap → ∀ E' : Value → Shared → Prop,
      wpAny (model prog w) A (assign target cenv v) (fun _ s₂ =>
        wpAny (model prog w) A (forIn ifs true fun c r => if r = true then do let ok ← isTrue c cenv (eval c cenv); pure (ForInStep.yield ok) else pure (ForInStep.yield r)) (fun ok s₃ =>
          if ok = true then wpC (model prog w) A (eval elt cenv) (fun y s₄ => KpOn n₁ (offOwn C own) s.heap s₄.heap ∧ OwnAt C own s₄.heap ∧ Inv (i + 1) (ys ++ [y]) s₄) E' s₃
          else KpOn n₁ (offOwn C own) s.heap s₃.heap ∧ OwnAt C own s₃.heap ∧ Inv (i + 1) ys s₃) E' s₂) E' s)
    (hst : St 0 s.heap) (hacc : s.heap.get? D = some { cls := .type "list", data := .seq #[] }) (hown : OwnAt C own s.heap) (h0 : Inv 0 [] s) (hsz : n ≤ sizeLine)
    (hC : C ≠ I ∧ C ≠ D) (hoo : ∀ p ∈ own, @Ne Nat p.2 I ∧ @Ne Nat p.2 D)
    (hR : ∀ ys s', Inv n ys s' → OwnAt C own s'.heap → s'.heap.IsList D ys.toArray → R (.ok .next) s')
    (ht : GoesOn prog w A target I St) :
    codeC (model prog w) A (.compLoop (.ListComp elt [⟨target, iter, ifs, 0⟩] scope pos) 0 (.ref I) (.ref D) cenv) R s := by
  refine compLoopC_go
    (fun k s' => ∃ i ys e, i ≤ n ∧ k = n + 1 - i ∧ ys.length ≤ i ∧ St i s'.heap ∧ s'.heap.get? D = some { cls := .type "list", data := .seq ys.toArray e } ∧ OwnAt C own s'.heap ∧ Inv i ys s') ?_ (n + 1)
    ⟨0, [], 0, Nat.zero_le _, rfl, Nat.le_refl _, hst, hacc, hown, h0⟩
  rintro k s' ⟨i, ys, e, hi, rfl, hyl, hst', hacc', hown', hinv⟩
  have ownKeep : ∀ {h h' : Heap}, (∀ b o, b ∉ [I] → h.get? b = some o → h'.get? b = some o) → OwnAt C own h → OwnAt C own h' := fun {h h'} hk ho => by
    obtain ⟨⟨m, hn, o, e1, e2⟩, hc⟩ := ho
    refine ⟨⟨m, hn.at' fun o e => hk _ _ (by simpa using hC.1) e, o, hk _ _ (by simpa using hC.1) e1, e2⟩, fun p hp => ?_⟩
    obtain ⟨v, o, a, b, d⟩ := hc p hp
    exact ⟨v, o, hk _ _ (by simpa using (hoo p hp).1) a, b, d⟩
  by_cases hlt : i < n
  · refine W.item i _ _ _ hlt hst' fun v h₁ tk₁ hPv hst₁ hk₁ => ?_
    have inv₁ : Inv i ys { s' with heap := h₁, toks := tk₁ } := stable _ _ _ _ hinv (KpOn.of_keep fun b o hb e => hk₁ b o (by simpa using hb.1) e) rfl rfl
    refine ht (i + 1) v _ _ _ hst₁ ?_
    refine wpAny_mono (turn i v ys _ hlt hPv inv₁ (ownKeep hk₁ hown') _) (fun _ s₂ h₂ => ?_) fun _ _ x => x
    refine wpAny_mono h₂ (fun ok s₃ h₃ => ?_) fun _ _ x => x
    have accD : h₁.get? D = some { cls := .type "list", data := .seq ys.toArray e } := hk₁ D _ (by simpa using Ne.symm hID) hacc'
    cases ok with
    | true =>
      simp only [if_true] at h₃ ⊢
      refine wpC_mono h₃ (fun y s₄ h₄ => ?_) fun _ _ x => x
      obtain ⟨k4, o4, i4⟩ := h₄
      have st4 : St (i + 1) s₄.heap := W.frame _ _ _ hst₁ fun b hb o eb => k4.get (hfo b hb) eb (hfp _ _ b o hst₁ hb eb)
      have a4 : s₄.heap.get? D = some { cls := .type "list", data := .seq ys.toArray e } := k4.get hD accD (by rintro ⟨_, _, q⟩; cases q)
      refine append_at (hsz := by rw [List.size_toArray]; exact Nat.le_trans (Nat.le_trans hyl hi) hsz) a4 fun h₅ hs₅ hD₅ => ?_
      refine ⟨n + 1 - (i + 1), by omega, i + 1, ys ++ [y], e + 1, hlt, rfl, by rw [List.length_append, List.length_singleton]; exact Nat.succ_le_succ hyl, ?_, ?_, ?_, ?_⟩
      · exact W.frame _ _ _ st4 fun b hb o eb => hs₅.extBut b o (fun q => hDf (q ▸ hb)) eb
      · rw [hD₅, List.push_toArray]
      · obtain ⟨⟨m, hn, o, e1, e2⟩, hc⟩ := o4
        refine ⟨⟨m, hn.sameBut hs₅ hC.2, o, hs₅.extBut _ _ hC.2 e1, e2⟩, fun p hp => ?_⟩
        obtain ⟨v, o, a, b, d⟩ := hc p hp
        exact ⟨v, o, hs₅.extBut _ _ (hoo p hp).2 a, b, d⟩
      · exact stable _ _ _ _ i4 (KpOn.of_same hs₅ fun b hb => hb.2) rfl rfl
    | false =>
      simp only [Bool.false_eq_true, if_false] at h₃ ⊢
      obtain ⟨k4, o4, i4⟩ := h₃
      refine ⟨n + 1 - (i + 1), by omega, i + 1, ys, e, hlt, rfl, Nat.le_succ_of_le hyl, ?_, k4.get hD accD (by rintro ⟨_, _, q⟩; cases q), o4, i4⟩
      exact W.frame _ _ _ hst₁ fun b hb o eb => k4.get (hfo b hb) eb (hfp _ _ b o hst₁ hb eb)
  · obtain rfl : i = n := Nat.le_antisymm hi (Nat.not_lt.mp hlt)
    refine W.done _ _ _ hst' fun h₂ tk₂ hk₂ => ?_
    have inv₁ : Inv i ys { s' with heap := h₂, toks := tk₂ } := stable _ _ _ _ hinv (KpOn.of_keep fun b o hb e => hk₂ b o (by simpa using hb.1) e) rfl rfl
    exact hR ys _ inv₁ (ownKeep hk₂ hown') ⟨_, hk₂ D _ (by simpa using Ne.symm hID) hacc', rfl, _, rfl⟩
end

section
variable {prog : Program} {w : World} {A : Around} {E : Value → Shared → Prop} {n₁ : Nat} {env : Env}

/-- What a comprehension's turn is asked. The iterator lies at I, the list that grows at I + 1, the names' table at I + 2, own cells behind. -/
def TurnC (prog : Program) (w : World) (A : Around) (n₁ : Nat) (env : Env) (scope : Scope) (cl : List (Str × Addr)) (elt target : Expr) (ifs : List Expr) (I n : Nat) (P : Nat → Value → Prop) (Inv : Nat → List Value → Shared → Prop) : Prop :=
  ∀ i v ys s, i < n → P i v → Inv i ys s → OwnAt (I + 2) (cellsFrom (I + 3) scope.names []) s.heap → ∀ E' : Value → Shared → Prop,
    wpAny (model prog w) A (assign target (compEnvC scope (cellsFrom (I + 3) scope.names cl) (I + 2) env) v) (fun _ s₂ =>
      wpAny (model prog w) A (forIn ifs true fun c r => if r = true then do let ok ← isTrue c (compEnvC scope (cellsFrom (I + 3) scope.names cl) (I + 2) env) (eval c (compEnvC scope (cellsFrom (I + 3) scope.names cl) (I + 2) env)); pure (ForInStep.yield ok) else pure (ForInStep.yield r)) (fun ok s₃ =>
        if ok = true then wpC (model prog w) A (eval elt (compEnvC scope (cellsFrom (I + 3) scope.names cl) (I + 2) env)) (fun y s₄ => KpOn n₁ (offOwn (I + 2) (cellsFrom (I + 3) scope.names [])) s.heap s₄.heap ∧ OwnAt (I + 2) (cellsFrom (I + 3) scope.names []) s₄.heap ∧ Inv (i + 1) (ys ++ [y]) s₄) E' s₃
        else KpOn n₁ (offOwn (I + 2) (cellsFrom (I + 3) scope.names [])) s.heap s₃.heap ∧ OwnAt (I + 2) (cellsFrom (I + 3) scope.names []) s₃.heap ∧ Inv (i + 1) ys s₃) E' s₂) E' s
theorem compC_block {elt target iter : Expr} {ifs : List Expr} {scope : Scope} {cl : List (Str × Addr)} {pos : Pos} {s₂ : Shared} {I : Nat} {fp : List Nat} {n : Nat} {P : Nat → Value → Prop} {St : Nat → Heap → Prop} {RR : Value → Addr → Result → Shared → Prop}
    (W : Walks prog w A I fp [I] n P St) (hfp : ∀ i h b o, St i h → b ∈ fp → h.get? b = some o → ¬ Tabled o) (hfl : ∀ b ∈ fp, b ≤ I) (hI : I + 1 = s₂.heap.objs.size) (hsz : n ≤ sizeLine)
    (Inv : Nat → List Value → Shared → Prop)
    (stable : ∀ i ys s s', Inv i ys s → KpOn n₁ (outC I (ncells scope.names)) s.heap s'.heap → s'.gens = s.gens → s'.os = s.os → Inv i ys s')
    (hst : St 0 s₂.heap) (h0 : Inv 0 [] s₂)
    (turn : TurnC prog w A n₁ env scope cl elt target ifs I n P Inv)
    (hRR : ∀ ys s', Inv n ys s' → (∃ m, s'.heap.Ns (I + 2) m) → s'.heap.IsList (I + 1) ys.toArray → RR (.ref (I + 1)) (I + 2) (.ok .next) s')
    (ht : GoesOn prog w A target I St) :
    wpAny (model prog w) A (newList []) (fun acc s₃ => wpAny (model prog w) A (newFunctionEnv scope env.globals cl [] env.qual none .none (some env)) (fun cenv s₄ =>
      codeC (model prog w) A (.compStart (.ListComp elt [⟨target, iter, ifs, 0⟩] scope pos) 0 (.ref I) acc { cenv with scope := relabel scope env }) (RR acc cenv.locals) s₄) E s₃) E s₂ := by
  refine wpAny_newObj_type (newEnv_comp ?_)
  have hD : s₂.heap.objs.size = I + 1 := hI.symm
  have hC : ({ s₂ with heap := s₂.heap.push { cls := .type "list", dict := none, data := .seq ([] : List Value).toArray } } : Shared).heap.objs.size = I + 2 := by
    show (s₂.heap.push _).objs.size = _
    rw [Heap.size_push, hD]
  rw [hC, hD]
  generalize hH2 : ({ s₂ with heap := s₂.heap.push { cls := .type "list", dict := none, data := .seq ([] : List Value).toArray } } : Shared) = S2
  have hS2 : S2.heap = s₂.heap.push { cls := .type "list", dict := none, data := .seq ([] : List Value).toArray } := by rw [← hH2]
  have hC' : S2.heap.objs.size = I + 2 := by rw [← hC, hH2]
  show codeC (model prog w) A (.compStart (.ListComp elt [⟨target, iter, ifs, 0⟩] scope pos) 0 (.ref I) (.ref (I + 1)) (compEnvC scope (cellsFrom (I + 3) scope.names cl) (I + 2) env)) (RR (.ref (I + 1)) (I + 2)) _
  have kp : ∀ b o, s₂.heap.get? b = some o → (pushCells (S2.heap.push { cls := .type "dict", data := .dict #[] }) scope.names).get? b = some o := fun b o e =>
    pushCells_keeps _ _ _ _ (Heap.get?_push_of_some _ (by rw [hS2]; exact Heap.get?_push_of_some _ e))
  have eD : (pushCells (S2.heap.push { cls := .type "dict", data := .dict #[] }) scope.names).get? (I + 1) = some { cls := .type "list", data := .seq #[] } := by
    refine pushCells_keeps _ _ _ _ (Heap.get?_push_of_some _ ?_)
    rw [hS2, ← hD]; exact Heap.get?_push_size _ rfl
  have eC : (pushCells (S2.heap.push { cls := .type "dict", data := .dict #[] }) scope.names).get? (I + 2) = some { cls := .type "dict", data := .dict #[] } := by
    refine pushCells_keeps _ _ _ _ ?_
    rw [← hC']; exact Heap.get?_push_size _ rfl
  have hn : (pushCells (S2.heap.push { cls := .type "dict", data := .dict #[] }) scope.names).Ns (I + 2) fun _ => none := by
    have := (Heap.Ns.new S2.heap (.type "dict")).keeps (pushCells_keeps scope.names (S2.heap.push { cls := .type "dict", data := .dict #[] }))
    rw [hC'] at this; exact this
  have cr := cellsFrom_range scope.names (I + 3)
  have own : OwnAt (I + 2) (cellsFrom (I + 3) scope.names []) (pushCells (S2.heap.push { cls := .type "dict", data := .dict #[] }) scope.names) := by
    refine ⟨⟨_, hn, _, eC, trivial⟩, fun p hp => ⟨none, pushCells_cl scope.names _ p ?_⟩⟩
    rw [Heap.size_push, hC']; exact hp
  have off : ∀ b : Nat, b ≤ I + 1 → offOwn (I + 2) (cellsFrom (I + 3) scope.names []) b := fun b hb => ⟨by omega, fun p hp => by have := cr p hp; omega⟩
  have outOk : ∀ b : Nat, outC I (ncells scope.names) b → b ≠ I ∧ b ≠ I + 1 := fun b hb => by unfold outC at hb; omega
  have st0 := W.frame 0 _ (pushCells (S2.heap.push { cls := .type "dict", data := .dict #[] }) scope.names) hst fun b _ o e => kp b o e
  have inv0 : Inv 0 [] { S2 with heap := pushCells (S2.heap.push { cls := .type "dict", data := .dict #[] }) scope.names } := stable _ _ _ _ h0 (KpOn.of_keep fun b o _ e => kp b o e) (by rw [← hH2]) (by rw [← hH2])
  have loop : codeC (model prog w) A (.compLoop (.ListComp elt [⟨target, iter, ifs, 0⟩] scope pos) 0 (.ref I) (.ref (I + 1)) (compEnvC scope (cellsFrom (I + 3) scope.names cl) (I + 2) env)) (RR (.ref (I + 1)) (I + 2))
      { S2 with heap := pushCells (S2.heap.push { cls := .type "dict", data := .dict #[] }) scope.names } := by
    refine compC_loop (n₁ := n₁) (own := cellsFrom (I + 3) scope.names []) (C := I + 2) W hfp (fun b hb => off b (Nat.le_succ_of_le (hfl b hb))) (off _ (Nat.le_refl _)) (by omega) (fun hm => by have := hfl _ hm; omega)
      Inv (fun i ys s s' hi hk => stable i ys s s' hi (hk.mono outOk)) turn st0 eD own inv0 hsz ⟨by omega, by omega⟩ (fun p hp => by have := cr p hp; omega) (fun ys s' hi ho hl => hRR ys s' hi (let ⟨⟨m, hm, _⟩, _⟩ := ho; ⟨m, hm⟩) hl) ht
  exact codeC_compStart loop (W.self 0 _ _ _ st0 loop)

/-- A list comprehension over a list: what is asked of the state s₁ behind its source. I = the size of the heap there. -/
def CompC (prog : Program) (w : World) (A : Around) (n₁ : Nat) (env : Env) (scope : Scope) (cl : List (Str × Addr)) (elt target : Expr) (ifs : List Expr) (Fin : List Value → Nat → Shared → Prop) (xv : Value) (s₁ : Shared) : Prop :=
  ∃ l items, xv = .ref l ∧ s₁.heap.IsList l items ∧ items.size ≤ sizeLine ∧ A.handled = none ∧ ∃ Inv : Nat → List Value → Shared → Prop,
    (∀ i ys s s', Inv i ys s → KpOn n₁ (outC s₁.heap.objs.size (ncells scope.names)) s.heap s'.heap → s'.gens = s.gens → s'.os = s.os → Inv i ys s') ∧ Inv 0 [] s₁ ∧
    TurnC prog w A n₁ env scope cl elt target ifs s₁.heap.objs.size items.size (fun i v => items[i]? = some v) Inv ∧
    ∀ ys s', Inv items.size ys s' → (∃ m, s'.heap.Ns (s₁.heap.objs.size + 2) m) → s'.heap.IsList (s₁.heap.objs.size + 1) ys.toArray → Fin ys s₁.heap.objs.size s'

theorem compC_list {elt target iter : Expr} {ifs : List Expr} {scope : Scope} {cl : List (Str × Addr)} {pos cpos : Pos} {s : Shared} {use : Option (Value → Sem Unit)} {Q : Value → Shared → Prop}
    (hclos : closureFor scope env = pure cl) (hkind : scope.kind = .function) (hnames : ∀ y ∈ scope.names, y.2 = .local → scope.names.lookup y.1 = some .local)
    (h : wpAny (model prog w) A (eval iter env) (CompC prog w A n₁ env scope cl elt target ifs (fun _ I s' => compPostC (model prog w) A E use Q (.ref (I + 1)) (I + 2) (.ok .next) s')) E s)
    (hs : ∀ x, foldedSetIterable iter env x = pure x := by intro _; rfl) :
    wpC (model prog w) A (comprehension (.ListComp elt [⟨target, iter, ifs, 0⟩] scope pos) scope env cpos (newList []) false (eval iter env) use) Q E s := by
  refine compC_free rfl hs hclos hkind hnames (wpAny_mono h (fun xv s₁ h₁ => ?_) fun _ _ e => e)
  obtain ⟨l, items, rfl, hl, hsz, hh, Inv, stable, h0, turn, hend⟩ := h₁
  refine wpAny_pyIter_list hl ?_
  have up : ∀ b o, s₁.heap.get? b = some o → (s₁.heap.push { cls := .type "list_iterator", data := .fields #[.ref l, .int 0 0] }).get? b = some o := fun b o e => Heap.get?_push_of_some _ e
  have hlt : @LT.lt Nat _ l s₁.heap.objs.size := by obtain ⟨_, e, _⟩ := hl; exact Heap.lt_size e
  refine compC_block (n₁ := n₁) (Walks.list hh s₁.heap.objs.size l (Nat.ne_of_lt hlt) items) (fun i h b o st hb e => ?_) (fun b hb => ?_) (by show _ = (s₁.heap.push _).objs.size; rw [Heap.size_push]) hsz Inv stable
    ⟨⟨_, Heap.get?_push_size _ rfl, rfl, rfl⟩, hl.push _⟩ (stable _ _ _ _ h0 (KpOn.of_keep fun b o _ e => up b o e) rfl rfl) turn (fun ys s' hi hm hd => ?_) goesOn_list
  · rcases List.mem_cons.mp hb with rfl | hb
    · exact isListIter_cls st.1 e
    · rw [List.mem_singleton.mp hb] at e; exact isList_cls st.2 e
  · rcases List.mem_cons.mp hb with rfl | hb
    · exact Nat.le_refl _
    · rw [List.mem_singleton.mp hb]; exact Nat.le_of_lt hlt
  · exact hend ys s' hi hm hd

/-- the same over a range -/
def CompRC (prog : Program) (w : World) (A : Around) (n₁ : Nat) (env : Env) (scope : Scope) (cl : List (Str × Addr)) (elt target : Expr) (ifs : List Expr) (Fin : List Value → Nat → Shared → Prop) (xv : Value) (s₁ : Shared) : Prop :=
  ∃ r t u v, ∃ n : Nat, xv = .ref r ∧ IsRange s₁.heap r 0 n 1 t u v ∧ Builtin.Range.small 0 n 1 = true ∧ Builtin.Range.rangeSize 0 n 1 = (n : Int) ∧ n ≤ sizeLine ∧ A.handled = none ∧ ∃ Inv : Nat → List Value → Shared → Prop,
    (∀ i ys s s', Inv i ys s → KpOn n₁ (outC s₁.heap.objs.size (ncells scope.names)) s.heap s'.heap → s'.gens = s.gens → s'.os = s.os → Inv i ys s') ∧ Inv 0 [] s₁ ∧
    TurnC prog w A n₁ env scope cl elt target ifs s₁.heap.objs.size n (fun i v => ∃ t, v = .int (0 + (i : Int)) t) Inv ∧
    ∀ ys s', Inv n ys s' → (∃ m, s'.heap.Ns (s₁.heap.objs.size + 2) m) → s'.heap.IsList (s₁.heap.objs.size + 1) ys.toArray → Fin ys s₁.heap.objs.size s'
theorem compC_range {elt iter : Expr} {x : Str} {px : Pos} {ifs : List Expr} {scope : Scope} {cl : List (Str × Addr)} {pos cpos : Pos} {s : Shared} {use : Option (Value → Sem Unit)} {Q : Value → Shared → Prop}
    (hclos : closureFor scope env = pure cl) (hkind : scope.kind = .function) (hnames : ∀ y ∈ scope.names, y.2 = .local → scope.names.lookup y.1 = some .local)
    (h : wpAny (model prog w) A (eval iter env) (CompRC prog w A n₁ env scope cl elt (.Name x px) ifs (fun _ I s' => compPostC (model prog w) A E use Q (.ref (I + 1)) (I + 2) (.ok .next) s')) E s)
    (hs : ∀ x, foldedSetIterable iter env x = pure x := by intro _; rfl) :
    wpC (model prog w) A (comprehension (.ListComp elt [⟨.Name x px, iter, ifs, 0⟩] scope pos) scope env cpos (newList []) false (eval iter env) use) Q E s := by
  refine compC_free rfl hs hclos hkind hnames (wpAny_mono h (fun xv s₁ h₁ => ?_) fun _ _ e => e)
  obtain ⟨r, t, u, v, n, rfl, hr, hsm, hn, hsz, hh, Inv, stable, h0, turn, hend⟩ := h₁
  refine wpAny_pyIter_range hr hsm ?_
  refine compC_block (n₁ := n₁) (LCg.range_walks hh 0 n) (fun i h b o st hb e => ?_) (fun b hb => ?_) (by show _ = (s₁.heap.push _).objs.size; rw [Heap.size_push]) hsz Inv stable
    (by show IsRangeIter _ _ _ _ _; rw [hn]; simpa using Heap.get?_push_size _ rfl) (stable _ _ _ _ h0 (KpOn.of_keep fun b o _ e => Heap.get?_push_of_some _ e) rfl rfl) turn (fun ys s' hi hm hd => ?_) goesOn_name
  · rw [List.mem_singleton.mp hb] at e
    have st' : h.get? s₁.heap.objs.size = some _ := st
    rw [e] at st'; cases st'
    rintro ⟨_, _, q⟩; cases q
  · rw [List.mem_singleton.mp hb]; exact Nat.le_refl _
  · exact hend ys s' hi hm hd
end
end Mine
end

section
open PySem PySem.W PyProof.Rows PySem.SeqAt PySem.Calls
set_option Elab.async false
set_option maxRecDepth 100000
namespace Mine

/-- how the law's state goes on while a comprehension runs that began at size I in S -/
structure Rn (n₁ I : Nat) (S s : Shared) : Prop where
  kp : KpOn n₁ (fun b => @LT.lt Nat _ b I) S.heap s.heap
  os : s.os = S.os
  bare : AllBare S.gens → AllBare s.gens
/-- one turn -/
structure Stp (n₁ C : Nat) (own : List (Str × Addr)) (s s' : Shared) : Prop where
  kp : KpOn n₁ (offOwn C own) s.heap s'.heap
  own : OwnAt C own s'.heap
  os : s'.os = s.os
  bare : AllBare s.gens → AllBare s'.gens

inductive All2 {α β : Type} (R : α → β → Prop) : List α → List β → Prop
  | nil : All2 R [] []
  | cons {a : α} {b : β} {as : List α} {bs : List β} : R a b → All2 R as bs → All2 R (a :: as) (b :: bs)
theorem All2.mono {α β : Type} {R R' : α → β → Prop} (f : ∀ a b, R a b → R' a b) : ∀ {as : List α} {bs : List β}, All2 R as bs → All2 R' as bs
  | _, _, .nil => .nil
  | _, _, .cons h t => .cons (f _ _ h) (t.mono f)
theorem All2.snoc {α β : Type} {R : α → β → Prop} {a : α} {b : β} : ∀ {as : List α} {bs : List β}, All2 R as bs → R a b → All2 R (as ++ [a]) (bs ++ [b])
  | _, _, .nil, h => .cons h .nil
  | _, _, .cons h t, h' => .cons h (t.snoc h')
theorem All2.length {α β : Type} {R : α → β → Prop} : ∀ {as : List α} {bs : List β}, All2 R as bs → as.length = bs.length
  | _, _, .nil => rfl
  | _, _, .cons _ t => congrArg (· + 1) t.length
theorem All2.get {α β : Type} {R : α → β → Prop} : ∀ {as : List α} {bs : List β}, All2 R as bs → ∀ (i : Nat) (a : α), as[i]? = some a → ∃ b, bs[i]? = some b ∧ R a b
  | _, _, .nil, _, _, h => by simp at h
  | _, _, .cons h t, 0, a, e => by
    have : _ = a := Option.some.inj e
    subst this
    exact ⟨_, rfl, h⟩
  | _, _, .cons h t, i + 1, a, e => t.get i a e

/-- the places that are kept -/
def idx (keep : Nat → Bool) (n : Nat) : List Nat := (List.range n).filter keep
theorem idx_true {keep : Nat → Bool} {i : Nat} (h : keep i = true) : idx keep (i + 1) = idx keep i ++ [i] := by
  unfold idx; rw [List.range_succ, List.filter_append]; simp [h]
theorem idx_false {keep : Nat → Bool} {i : Nat} (h : keep i = false) : idx keep (i + 1) = idx keep i := by
  unfold idx; rw [List.range_succ, List.filter_append]; simp [h]
theorem idx_all (n : Nat) : idx (fun _ => true) n = List.range n := by unfold idx; simp

def MapInv (n₁ : Nat) (keep : Nat → Bool) (Y : Nat → Value → Heap → Prop) (S : Shared) (i : Nat) (ys : List Value) (s : Shared) : Prop :=
  Rn n₁ S.heap.objs.size S s ∧ All2 (fun i y => Y i y s.heap) (idx keep i) ys

section
variable {prog : Program} {w : World} {A : Around} {E : Value → Shared → Prop} {n₁ : Nat} {env : Env}

def MTurnA (prog : Program) (w : World) (A : Around) (n₁ : Nat) (env : Env) (scope : Scope) (cl : List (Str × Addr)) (elt target : Expr) (ifs : List Expr) (S : Shared) (n : Nat) (P : Nat → Value → Prop) (keep : Nat → Bool) (Y : Nat → Value → Heap → Prop) : Prop :=
  ∀ i v s, i < n → P i v → Rn n₁ S.heap.objs.size S s → OwnAt (S.heap.objs.size + 2) (cellsFrom (S.heap.objs.size + 3) scope.names []) s.heap → ∀ E' : Value → Shared → Prop,
    wpAny (model prog w) A (assign target (compEnvC scope (cellsFrom (S.heap.objs.size + 3) scope.names cl) (S.heap.objs.size + 2) env) v) (fun _ s₂ =>
      wpAny (model prog w) A (forIn ifs true fun c r => if r = true then do let ok ← isTrue c (compEnvC scope (cellsFrom (S.heap.objs.size + 3) scope.names cl) (S.heap.objs.size + 2) env) (eval c (compEnvC scope (cellsFrom (S.heap.objs.size + 3) scope.names cl) (S.heap.objs.size + 2) env)); pure (ForInStep.yield ok) else pure (ForInStep.yield r)) (fun ok s₃ => ok = keep i ∧
        if ok = true then wpAny (model prog w) A (eval elt (compEnvC scope (cellsFrom (S.heap.objs.size + 3) scope.names cl) (S.heap.objs.size + 2) env)) (fun y s₄ => Stp n₁ (S.heap.objs.size + 2) (cellsFrom (S.heap.objs.size + 3) scope.names []) s s₄ ∧ Y i y s₄.heap) E' s₃
        else Stp n₁ (S.heap.objs.size + 2) (cellsFrom (S.heap.objs.size + 3) scope.names []) s s₃) E' s₂) E' s

theorem mapA_inv {scope : Scope} {cl : List (Str × Addr)} {elt target : Expr} {ifs : List Expr} {S : Shared} {n : Nat} {P : Nat → Value → Prop} {keep : Nat → Bool} {Y : Nat → Value → Heap → Prop}
    (hY : ∀ i y h h', Y i y h → KpOn n₁ (outC S.heap.objs.size (ncells scope.names)) h h' → Y i y h')
    (turn : MTurnA prog w A n₁ env scope cl elt target ifs S n P keep Y) :
    (∀ i ys s s', MapInv n₁ keep Y S i ys s → KpOn n₁ (outC S.heap.objs.size (ncells scope.names)) s.heap s'.heap → s'.gens = s.gens → s'.os = s.os → MapInv n₁ keep Y S i ys s') ∧ MapInv n₁ keep Y S 0 [] S ∧
    TurnOk prog w A n₁ env scope cl elt target ifs S.heap.objs.size n P (MapInv n₁ keep Y S) := by
  have toOut : ∀ {h h' : Heap}, KpOn n₁ (offOwn (S.heap.objs.size + 2) (cellsFrom (S.heap.objs.size + 3) scope.names [])) h h' → KpOn n₁ (outC S.heap.objs.size (ncells scope.names)) h h' := fun {h h'} k => k.mono fun b hb => by
    have cr := cellsFrom_range scope.names (S.heap.objs.size + 3)
    unfold outC at hb
    exact ⟨by omega, fun p hp => by have := cr p hp; omega⟩
  have low : ∀ b : Nat, b < S.heap.objs.size → outC S.heap.objs.size (ncells scope.names) b := fun b hb => .inl hb
  refine ⟨fun i ys s s' ⟨r, a⟩ k g o => ⟨⟨r.kp.trans (k.mono low), o.trans r.os, fun q => by rw [g]; exact r.bare q⟩, a.mono fun i y q => hY i y _ _ q k⟩, ⟨⟨KpOn.refl, rfl, fun q => q⟩, All2.nil⟩, ?_⟩
  intro i v ys s hi hP hinv hown E'
  obtain ⟨r, a⟩ := hinv
  refine wpAny_mono (turn i v s hi hP r hown E') (fun _ s₂ h₂ => wpAny_mono h₂ (fun ok s₃ h₃ => ?_) fun _ _ x => x) fun _ _ x => x
  obtain ⟨rfl, h₃⟩ := h₃
  cases hk : keep i with
  | true =>
    rw [hk] at h₃
    simp only [if_true] at h₃ ⊢
    refine wpAny_mono h₃ (fun y s₄ h₄ => ?_) fun _ _ x => x
    obtain ⟨st, hy⟩ := h₄
    refine ⟨st.kp, st.own, ⟨⟨r.kp.trans ((toOut st.kp).mono low), st.os.trans r.os, fun q => st.bare (r.bare q)⟩, ?_⟩⟩
    rw [idx_true hk]
    exact (a.mono fun i y q => hY i y _ _ q (toOut st.kp)).snoc hy
  | false =>
    rw [hk] at h₃
    simp only [Bool.false_eq_true, if_false] at h₃ ⊢
    refine ⟨h₃.kp, h₃.own, ⟨⟨r.kp.trans ((toOut h₃.kp).mono low), h₃.os.trans r.os, fun q => h₃.bare (r.bare q)⟩, ?_⟩⟩
    rw [idx_false hk]
    exact a.mono fun i y q => hY i y _ _ q (toOut h₃.kp)

/-- a comprehension over a list, as a map with a filter -/
theorem mapA_list {elt target iter : Expr} {ifs : List Expr} {scope : Scope} {cl : List (Str × Addr)} {pos cpos : Pos} {s : Shared} {use : Option (Value → Sem Unit)} {Q : Value → Shared → Prop}
    (hclos : closureFor scope env = pure cl) (hkind : scope.kind = .function) (hnames : ∀ y ∈ scope.names, y.2 = .local → scope.names.lookup y.1 = some .local)
    (h : wpAny (model prog w) A (eval iter env) (fun xv S => ∃ l items, xv = .ref l ∧ S.heap.IsList l items ∧ items.size ≤ sizeLine ∧ A.handled = none ∧ ∃ keep Y,
      (∀ i y h h', Y i y h → KpOn n₁ (outC S.heap.objs.size (ncells scope.names)) h h' → Y i y h') ∧
      MTurnA prog w A n₁ env scope cl elt target ifs S items.size (fun i v => items[i]? = some v) keep Y ∧
      ∀ ys s', Rn n₁ S.heap.objs.size S s' → All2 (fun i y => Y i y s'.heap) (idx keep items.size) ys → (∃ m, s'.heap.Ns (S.heap.objs.size + 2) m) → s'.heap.IsList (S.heap.objs.size + 1) ys.toArray →
        compPost (model prog w) A E use Q (.ref (S.heap.objs.size + 1)) (S.heap.objs.size + 2) (.ok .next) s') E s)
    (hs : ∀ x, foldedSetIterable iter env x = pure x := by intro _; rfl) :
    wpAny (model prog w) A (comprehension (.ListComp elt [⟨target, iter, ifs, 0⟩] scope pos) scope env cpos (newList []) false (eval iter env) use) Q E s := by
  refine comp_list (n₁ := n₁) hclos hkind hnames (wpAny_mono h (fun xv S hS => ?_) fun _ _ x => x) hs
  obtain ⟨l, items, rfl, hl, hsz, hh, keep, Y, hY, turn, fin⟩ := hS
  obtain ⟨i1, i2, i3⟩ := mapA_inv hY turn
  exact ⟨l, items, rfl, hl, hsz, hh, MapInv n₁ keep Y S, i1, i2, i3, fun ys s' hi hm hd => fin ys s' hi.1 hi.2 hm hd⟩

theorem mapA_range {elt iter : Expr} {x : Str} {px : Pos} {ifs : List Expr} {scope : Scope} {cl : List (Str × Addr)} {pos cpos : Pos} {s : Shared} {use : Option (Value → Sem Unit)} {Q : Value → Shared → Prop}
    (hclos : closureFor scope env = pure cl) (hkind : scope.kind = .function) (hnames : ∀ y ∈ scope.names, y.2 = .local → scope.names.lookup y.1 = some .local)
    (h : wpAny (model prog w) A (eval iter env) (fun xv S => ∃ r t u v, ∃ n : Nat, xv = .ref r ∧ IsRange S.heap r 0 n 1 t u v ∧ Builtin.Range.small 0 n 1 = true ∧ Builtin.Range.rangeSize 0 n 1 = (n : Int) ∧ n ≤ sizeLine ∧ A.handled = none ∧ ∃ keep Y,
      (∀ i y h h', Y i y h → KpOn n₁ (outC S.heap.objs.size (ncells scope.names)) h h' → Y i y h') ∧
      MTurnA prog w A n₁ env scope cl elt (.Name x px) ifs S n (fun i v => ∃ t, v = .int (0 + (i : Int)) t) keep Y ∧
      ∀ ys s', Rn n₁ S.heap.objs.size S s' → All2 (fun i y => Y i y s'.heap) (idx keep n) ys → (∃ m, s'.heap.Ns (S.heap.objs.size + 2) m) → s'.heap.IsList (S.heap.objs.size + 1) ys.toArray →
        compPost (model prog w) A E use Q (.ref (S.heap.objs.size + 1)) (S.heap.objs.size + 2) (.ok .next) s') E s)
    (hs : ∀ x, foldedSetIterable iter env x = pure x := by intro _; rfl) :
    wpAny (model prog w) A (comprehension (.ListComp elt [⟨.Name x px, iter, ifs, 0⟩] scope pos) scope env cpos (newList []) false (eval iter env) use) Q E s := by
  refine comp_range (n₁ := n₁) hclos hkind hnames (wpAny_mono h (fun xv S hS => ?_) fun _ _ x => x) hs
  obtain ⟨r, t, u, v, n, rfl, hr, h1, h2, hsz, hh, keep, Y, hY, turn, fin⟩ := hS
  obtain ⟨i1, i2, i3⟩ := mapA_inv hY turn
  exact ⟨r, t, u, v, n, rfl, hr, h1, h2, hsz, hh, MapInv n₁ keep Y S, i1, i2, i3, fun ys s' hi hm hd => fin ys s' hi.1 hi.2 hm hd⟩

def MTurnC (prog : Program) (w : World) (A : Around) (n₁ : Nat) (env : Env) (scope : Scope) (cl : List (Str × Addr)) (elt target : Expr) (ifs : List Expr) (S : Shared) (n : Nat) (P : Nat → Value → Prop) (keep : Nat → Bool) (Y : Nat → Value → Heap → Prop) : Prop :=
  ∀ i v s, i < n → P i v → Rn n₁ S.heap.objs.size S s → OwnAt (S.heap.objs.size + 2) (cellsFrom (S.heap.objs.size + 3) scope.names []) s.heap → ∀ E' : Value → Shared → Prop,
    wpAny (model prog w) A (assign target (compEnvC scope (cellsFrom (S.heap.objs.size + 3) scope.names cl) (S.heap.objs.size + 2) env) v) (fun _ s₂ =>
      wpAny (model prog w) A (forIn ifs true fun c r => if r = true then do let ok ← isTrue c (compEnvC scope (cellsFrom (S.heap.objs.size + 3) scope.names cl) (S.heap.objs.size + 2) env) (eval c (compEnvC scope (cellsFrom (S.heap.objs.size + 3) scope.names cl) (S.heap.objs.size + 2) env)); pure (ForInStep.yield ok) else pure (ForInStep.yield r)) (fun ok s₃ => ok = keep i ∧
        if ok = true then wpC (model prog w) A (eval elt (compEnvC scope (cellsFrom (S.heap.objs.size + 3) scope.names cl) (S.heap.objs.size + 2) env)) (fun y s₄ => Stp n₁ (S.heap.objs.size + 2) (cellsFrom (S.heap.objs.size + 3) scope.names []) s s₄ ∧ Y i y s₄.heap) E' s₃
        else Stp n₁ (S.heap.objs.size + 2) (cellsFrom (S.heap.objs.size + 3) scope.names []) s s₃) E' s₂) E' s

theorem mapC_inv {scope : Scope} {cl : List (Str × Addr)} {elt target : Expr} {ifs : List Expr} {S : Shared} {n : Nat} {P : Nat → Value → Prop} {keep : Nat → Bool} {Y : Nat → Value → Heap → Prop}
    (hY : ∀ i y h h', Y i y h → KpOn n₁ (outC S.heap.objs.size (ncells scope.names)) h h' → Y i y h')
    (turn : MTurnC prog w A n₁ env scope cl elt target ifs S n P keep Y) :
    (∀ i ys s s', MapInv n₁ keep Y S i ys s → KpOn n₁ (outC S.heap.objs.size (ncells scope.names)) s.heap s'.heap → s'.gens = s.gens → s'.os = s.os → MapInv n₁ keep Y S i ys s') ∧ MapInv n₁ keep Y S 0 [] S ∧
    TurnC prog w A n₁ env scope cl elt target ifs S.heap.objs.size n P (MapInv n₁ keep Y S) := by
  have toOut : ∀ {h h' : Heap}, KpOn n₁ (offOwn (S.heap.objs.size + 2) (cellsFrom (S.heap.objs.size + 3) scope.names [])) h h' → KpOn n₁ (outC S.heap.objs.size (ncells scope.names)) h h' := fun {h h'} k => k.mono fun b hb => by
    have cr := cellsFrom_range scope.names (S.heap.objs.size + 3)
    unfold outC at hb
    exact ⟨by omega, fun p hp => by have := cr p hp; omega⟩
  have low : ∀ b : Nat, b < S.heap.objs.size → outC S.heap.objs.size (ncells scope.names) b := fun b hb => .inl hb
  refine ⟨fun i ys s s' ⟨r, a⟩ k g o => ⟨⟨r.kp.trans (k.mono low), o.trans r.os, fun q => by rw [g]; exact r.bare q⟩, a.mono fun i y q => hY i y _ _ q k⟩, ⟨⟨KpOn.refl, rfl, fun q => q⟩, All2.nil⟩, ?_⟩
  intro i v ys s hi hP hinv hown E'
  obtain ⟨r, a⟩ := hinv
  refine wpAny_mono (turn i v s hi hP r hown E') (fun _ s₂ h₂ => wpAny_mono h₂ (fun ok s₃ h₃ => ?_) fun _ _ x => x) fun _ _ x => x
  obtain ⟨rfl, h₃⟩ := h₃
  cases hk : keep i with
  | true =>
    rw [hk] at h₃
    simp only [if_true] at h₃ ⊢
    refine wpC_mono h₃ (fun y s₄ h₄ => ?_) fun _ _ x => x
    obtain ⟨st, hy⟩ := h₄
    refine ⟨st.kp, st.own, ⟨⟨r.kp.trans ((toOut st.kp).mono low), st.os.trans r.os, fun q => st.bare (r.bare q)⟩, ?_⟩⟩
    rw [idx_true hk]
    exact (a.mono fun i y q => hY i y _ _ q (toOut st.kp)).snoc hy
  | false =>
    rw [hk] at h₃
    simp only [Bool.false_eq_true, if_false] at h₃ ⊢
    refine ⟨h₃.kp, h₃.own, ⟨⟨r.kp.trans ((toOut h₃.kp).mono low), h₃.os.trans r.os, fun q => h₃.bare (r.bare q)⟩, ?_⟩⟩
    rw [idx_false hk]
    exact a.mono fun i y q => hY i y _ _ q (toOut h₃.kp)

/-- a comprehension over a list, as a map with a filter -/
theorem mapC_list {elt target iter : Expr} {ifs : List Expr} {scope : Scope} {cl : List (Str × Addr)} {pos cpos : Pos} {s : Shared} {use : Option (Value → Sem Unit)} {Q : Value → Shared → Prop}
    (hclos : closureFor scope env = pure cl) (hkind : scope.kind = .function) (hnames : ∀ y ∈ scope.names, y.2 = .local → scope.names.lookup y.1 = some .local)
    (h : wpAny (model prog w) A (eval iter env) (fun xv S => ∃ l items, xv = .ref l ∧ S.heap.IsList l items ∧ items.size ≤ sizeLine ∧ A.handled = none ∧ ∃ keep Y,
      (∀ i y h h', Y i y h → KpOn n₁ (outC S.heap.objs.size (ncells scope.names)) h h' → Y i y h') ∧
      MTurnC prog w A n₁ env scope cl elt target ifs S items.size (fun i v => items[i]? = some v) keep Y ∧
      ∀ ys s', Rn n₁ S.heap.objs.size S s' → All2 (fun i y => Y i y s'.heap) (idx keep items.size) ys → (∃ m, s'.heap.Ns (S.heap.objs.size + 2) m) → s'.heap.IsList (S.heap.objs.size + 1) ys.toArray →
        compPostC (model prog w) A E use Q (.ref (S.heap.objs.size + 1)) (S.heap.objs.size + 2) (.ok .next) s') E s)
    (hs : ∀ x, foldedSetIterable iter env x = pure x := by intro _; rfl) :
    wpC (model prog w) A (comprehension (.ListComp elt [⟨target, iter, ifs, 0⟩] scope pos) scope env cpos (newList []) false (eval iter env) use) Q E s := by
  refine compC_list (n₁ := n₁) hclos hkind hnames (wpAny_mono h (fun xv S hS => ?_) fun _ _ x => x) hs
  obtain ⟨l, items, rfl, hl, hsz, hh, keep, Y, hY, turn, fin⟩ := hS
  obtain ⟨i1, i2, i3⟩ := mapC_inv hY turn
  exact ⟨l, items, rfl, hl, hsz, hh, MapInv n₁ keep Y S, i1, i2, i3, fun ys s' hi hm hd => fin ys s' hi.1 hi.2 hm hd⟩
end
end Mine
end

section
open PySem PySem.W PyProof.Rows PySem.SeqAt PySem.Calls
set_option Elab.async false
set_option maxRecDepth 100000
namespace Mine

section
variable {prog : Program} {w : World} {A : Around} {n₁ : Nat}
/-- A comprehension's loop by an invariant over what it has made. -/
theorem compT_loop {elt iter : Expr} {ifs : List Expr} {scope : Scope} {pos : Pos} {I D C : Nat} {own : List (Str × Addr)} {cenv : Env} {fp wr : List Nat} {n : Nat} {Pt : Nat → Array Value → Prop} {St : Nat → Heap → Prop} {Mid : Nat → Addr → Heap → Prop} {elts : List Expr} {kt : Nat} {tp : Pos} {R : Result → Shared → Prop} {s : Shared}
    (W : WalksU prog w A I fp wr n Pt St Mid) (hfp : ∀ i h b o, St i h → b ∈ fp → h.get? b = some o → ¬ Tabled o)
    (hfo : ∀ b ∈ fp, offOwn C own b) (hwD : D ∉ wr) (hwC : C ∉ wr) (hwo : ∀ p ∈ own, p.2 ∉ wr) (hD : offOwn C own D) (hDf : D ∉ fp)
    (Inv : Nat → List Value → Shared → Prop)
    (stable : ∀ i ys s s', Inv i ys s → KpOn n₁ (fun b => b ∉ wr ∧ @Ne Nat b D) s.heap s'.heap → s'.gens = s.gens → s'.os = s.os → Inv i ys s')
    (turn : ∀ i T vals ys s, i < n → Pt i vals → s.heap.IsTuple T vals → Inv i ys s → OwnAt C own s.heap → ∀ E' : Value → Shared → Prop,
      wpAny (model prog w) A (assign (.Tuple elts kt tp) cenv (.ref T)) (fun _ s₂ =>
        wpAny (model prog w) A (forIn ifs true fun c r => if r = true then do let ok ← isTrue c cenv (eval c cenv); pure (ForInStep.yield ok) else pure (ForInStep.yield r)) (fun ok s₃ =>
          if ok = true then wpAny (model prog w) A (eval elt cenv) (fun y s₄ => KpOn n₁ (offOwn C own) s.heap s₄.heap ∧ OwnAt C own s₄.heap ∧ Inv (i + 1) (ys ++ [y]) s₄) E' s₃
          else KpOn n₁ (offOwn C own) s.heap s₃.heap ∧ OwnAt C own s₃.heap ∧ Inv (i + 1) ys s₃) E' s₂) E' s)
    (hst : St 0 s.heap) (hacc : s.heap.get? D = some { cls := .type "list", data := .seq #[] }) (hown : OwnAt C own s.heap) (h0 : Inv 0 [] s) (hsz : n ≤ sizeLine)
    (hC : C ≠ I ∧ C ≠ D) (hoo : ∀ p ∈ own, @Ne Nat p.2 I ∧ @Ne Nat p.2 D)
    (hR : ∀ ys s', Inv n ys s' → OwnAt C own s'.heap → s'.heap.IsList D ys.toArray → R (.ok .next) s') :
    codeAny (model prog w) A (.compLoop (.ListComp elt [⟨.Tuple elts kt tp, iter, ifs, 0⟩] scope pos) 0 (.ref I) (.ref D) cenv) R s := by
  refine compLoop_go
    (fun k s' => ∃ i ys e, i ≤ n ∧ k = n + 1 - i ∧ ys.length ≤ i ∧ St i s'.heap ∧ s'.heap.get? D = some { cls := .type "list", data := .seq ys.toArray e } ∧ OwnAt C own s'.heap ∧ Inv i ys s') ?_ (n + 1)
    ⟨0, [], 0, Nat.zero_le _, rfl, Nat.le_refl _, hst, hacc, hown, h0⟩
  rintro k s' ⟨i, ys, e, hi, rfl, hyl, hst', hacc', hown', hinv⟩
  have ownKeep : ∀ {h h' : Heap}, (∀ b o, b ∉ wr → h.get? b = some o → h'.get? b = some o) → OwnAt C own h → OwnAt C own h' := fun {h h'} hk ho => by
    obtain ⟨⟨m, hn, o, e1, e2⟩, hc⟩ := ho
    refine ⟨⟨m, hn.at' fun o e => hk _ _ hwC e, o, hk _ _ hwC e1, e2⟩, fun p hp => ?_⟩
    obtain ⟨v, o, a, b, d⟩ := hc p hp
    exact ⟨v, o, hk _ _ (hwo p hp) a, b, d⟩
  by_cases hlt : i < n
  · refine W.item i _ _ _ hlt hst' fun T vals h₀ tk₁ hPv hT₀ hmid hk₀ => ?_
    refine W.go _ _ _ i T _ _ _ hmid fun h₁ hst₁ hk₀' => ?_
    replace hk₀' : ∀ b o, b ∉ wr → h₀.get? b = some o → h₁.get? b = some o := hk₀'
    have hk₁ : ∀ b o, b ∉ wr → s'.heap.get? b = some o → h₁.get? b = some o := fun b o hb e => hk₀' b o hb (hk₀ b o hb e)
    have hT₁ : h₁.IsTuple T vals := let ⟨o, e, r⟩ := hT₀; ⟨o, hk₀' _ o (W.apart i T _ hmid) e, r⟩
    have inv₁ : Inv i ys { s' with heap := h₁, toks := tk₁ } := stable _ _ _ _ hinv (KpOn.of_keep fun b o hb e => hk₁ b o hb.1 e) rfl rfl
    refine wpAny_mono (turn i T vals ys _ hlt hPv hT₁ inv₁ (ownKeep hk₁ hown') _) (fun _ s₂ h₂ => ?_) fun _ _ x => x
    refine wpAny_mono h₂ (fun ok s₃ h₃ => ?_) fun _ _ x => x
    have accD : h₁.get? D = some { cls := .type "list", data := .seq ys.toArray e } := hk₁ D _ hwD hacc'
    cases ok with
    | true =>
      simp only [if_true] at h₃ ⊢
      refine wpAny_mono h₃ (fun y s₄ h₄ => ?_) fun _ _ x => x
      obtain ⟨k4, o4, i4⟩ := h₄
      have st4 : St (i + 1) s₄.heap := W.frame _ _ _ hst₁ fun b hb o eb => k4.get (hfo b hb) eb (hfp _ _ b o hst₁ hb eb)
      have a4 : s₄.heap.get? D = some { cls := .type "list", data := .seq ys.toArray e } := k4.get hD accD (by rintro ⟨_, _, q⟩; cases q)
      refine append_at (hsz := by rw [List.size_toArray]; exact Nat.le_trans (Nat.le_trans hyl hi) hsz) a4 fun h₅ hs₅ hD₅ => ?_
      refine ⟨n + 1 - (i + 1), by omega, i + 1, ys ++ [y], e + 1, hlt, rfl, by rw [List.length_append, List.length_singleton]; exact Nat.succ_le_succ hyl, ?_, ?_, ?_, ?_⟩
      · exact W.frame _ _ _ st4 fun b hb o eb => hs₅.extBut b o (fun q => hDf (q ▸ hb)) eb
      · rw [hD₅, List.push_toArray]
      · obtain ⟨⟨m, hn, o, e1, e2⟩, hc⟩ := o4
        refine ⟨⟨m, hn.sameBut hs₅ hC.2, o, hs₅.extBut _ _ hC.2 e1, e2⟩, fun p hp => ?_⟩
        obtain ⟨v, o, a, b, d⟩ := hc p hp
        exact ⟨v, o, hs₅.extBut _ _ (hoo p hp).2 a, b, d⟩
      · exact stable _ _ _ _ i4 (KpOn.of_same hs₅ fun b hb => hb.2) rfl rfl
    | false =>
      simp only [Bool.false_eq_true, if_false] at h₃ ⊢
      obtain ⟨k4, o4, i4⟩ := h₃
      refine ⟨n + 1 - (i + 1), by omega, i + 1, ys, e, hlt, rfl, Nat.le_succ_of_le hyl, ?_, k4.get hD accD (by rintro ⟨_, _, q⟩; cases q), o4, i4⟩
      exact W.frame _ _ _ hst₁ fun b hb o eb => k4.get (hfo b hb) eb (hfp _ _ b o hst₁ hb eb)
  · obtain rfl : i = n := Nat.le_antisymm hi (Nat.not_lt.mp hlt)
    refine W.done _ _ _ hst' fun h₂ tk₂ hk₂ => ?_
    have inv₁ : Inv i ys { s' with heap := h₂, toks := tk₂ } := stable _ _ _ _ hinv (KpOn.of_keep fun b o hb e => hk₂ b o hb.1 e) rfl rfl
    exact hR ys _ inv₁ (ownKeep hk₂ hown') ⟨_, hk₂ D _ hwD hacc', rfl, _, rfl⟩
end

section
variable {prog : Program} {w : World} {A : Around} {E : Value → Shared → Prop} {n₁ : Nat} {env : Env}
theorem compT_block {elt iter : Expr} {ifs : List Expr} {scope : Scope} {cl : List (Str × Addr)} {pos : Pos} {s₂ : Shared} {I : Nat} {fp wr : List Nat} {n : Nat} {Pt : Nat → Array Value → Prop} {St : Nat → Heap → Prop} {Mid : Nat → Addr → Heap → Prop} {elts : List Expr} {kt : Nat} {tp : Pos} {RR : Value → Addr → Result → Shared → Prop}
    (W : WalksU prog w A I fp wr n Pt St Mid) (hfp : ∀ i h b o, St i h → b ∈ fp → h.get? b = some o → ¬ Tabled o) (hfl : ∀ b ∈ fp, b ≤ I) (hI : I + 1 = s₂.heap.objs.size) (hsz : n ≤ sizeLine)
    (Inv : Nat → List Value → Shared → Prop)
    (stable : ∀ i ys s s', Inv i ys s → KpOn n₁ (fun b => outC I (ncells scope.names) b ∧ b ∉ wr) s.heap s'.heap → s'.gens = s.gens → s'.os = s.os → Inv i ys s')
    (hst : St 0 s₂.heap) (h0 : Inv 0 [] s₂)
    (turn : ∀ i T vals ys s, i < n → Pt i vals → s.heap.IsTuple T vals → Inv i ys s → OwnAt (I + 2) (cellsFrom (I + 3) scope.names []) s.heap → ∀ E' : Value → Shared → Prop,
      wpAny (model prog w) A (assign (.Tuple elts kt tp) (compEnvC scope (cellsFrom (I + 3) scope.names cl) (I + 2) env) (.ref T)) (fun _ s₂ =>
        wpAny (model prog w) A (forIn ifs true fun c r => if r = true then do let ok ← isTrue c (compEnvC scope (cellsFrom (I + 3) scope.names cl) (I + 2) env) (eval c (compEnvC scope (cellsFrom (I + 3) scope.names cl) (I + 2) env)); pure (ForInStep.yield ok) else pure (ForInStep.yield r)) (fun ok s₃ =>
          if ok = true then wpAny (model prog w) A (eval elt (compEnvC scope (cellsFrom (I + 3) scope.names cl) (I + 2) env)) (fun y s₄ => KpOn n₁ (offOwn (I + 2) (cellsFrom (I + 3) scope.names [])) s.heap s₄.heap ∧ OwnAt (I + 2) (cellsFrom (I + 3) scope.names []) s₄.heap ∧ Inv (i + 1) (ys ++ [y]) s₄) E' s₃
          else KpOn n₁ (offOwn (I + 2) (cellsFrom (I + 3) scope.names [])) s.heap s₃.heap ∧ OwnAt (I + 2) (cellsFrom (I + 3) scope.names []) s₃.heap ∧ Inv (i + 1) ys s₃) E' s₂) E' s)
    (hRR : ∀ ys s', Inv n ys s' → (∃ m, s'.heap.Ns (I + 2) m) → s'.heap.IsList (I + 1) ys.toArray → RR (.ref (I + 1)) (I + 2) (.ok .next) s') :
    wpAny (model prog w) A (newList []) (fun acc s₃ => wpAny (model prog w) A (newFunctionEnv scope env.globals cl [] env.qual none .none (some env)) (fun cenv s₄ =>
      codeAny (model prog w) A (.compStart (.ListComp elt [⟨.Tuple elts kt tp, iter, ifs, 0⟩] scope pos) 0 (.ref I) acc { cenv with scope := relabel scope env }) (RR acc cenv.locals) s₄) E s₃) E s₂ := by
  refine wpAny_newObj_type (newEnv_comp ?_)
  have hD : s₂.heap.objs.size = I + 1 := hI.symm
  have hC : ({ s₂ with heap := s₂.heap.push { cls := .type "list", dict := none, data := .seq ([] : List Value).toArray } } : Shared).heap.objs.size = I + 2 := by
    show (s₂.heap.push _).objs.size = _
    rw [Heap.size_push, hD]
  rw [hC, hD]
  generalize hH2 : ({ s₂ with heap := s₂.heap.push { cls := .type "list", dict := none, data := .seq ([] : List Value).toArray } } : Shared) = S2
  have hS2 : S2.heap = s₂.heap.push { cls := .type "list", dict := none, data := .seq ([] : List Value).toArray } := by rw [← hH2]
  have hC' : S2.heap.objs.size = I + 2 := by rw [← hC, hH2]
  show codeAny (model prog w) A (.compStart (.ListComp elt [⟨.Tuple elts kt tp, iter, ifs, 0⟩] scope pos) 0 (.ref I) (.ref (I + 1)) (compEnvC scope (cellsFrom (I + 3) scope.names cl) (I + 2) env)) (RR (.ref (I + 1)) (I + 2)) _
  have kp : ∀ b o, s₂.heap.get? b = some o → (pushCells (S2.heap.push { cls := .type "dict", data := .dict #[] }) scope.names).get? b = some o := fun b o e =>
    pushCells_keeps _ _ _ _ (Heap.get?_push_of_some _ (by rw [hS2]; exact Heap.get?_push_of_some _ e))
  have eD : (pushCells (S2.heap.push { cls := .type "dict", data := .dict #[] }) scope.names).get? (I + 1) = some { cls := .type "list", data := .seq #[] } := by
    refine pushCells_keeps _ _ _ _ (Heap.get?_push_of_some _ ?_)
    rw [hS2, ← hD]; exact Heap.get?_push_size _ rfl
  have eC : (pushCells (S2.heap.push { cls := .type "dict", data := .dict #[] }) scope.names).get? (I + 2) = some { cls := .type "dict", data := .dict #[] } := by
    refine pushCells_keeps _ _ _ _ ?_
    rw [← hC']; exact Heap.get?_push_size _ rfl
  have hn : (pushCells (S2.heap.push { cls := .type "dict", data := .dict #[] }) scope.names).Ns (I + 2) fun _ => none := by
    have := (Heap.Ns.new S2.heap (.type "dict")).keeps (pushCells_keeps scope.names (S2.heap.push { cls := .type "dict", data := .dict #[] }))
    rw [hC'] at this; exact this
  have cr := cellsFrom_range scope.names (I + 3)
  have own : OwnAt (I + 2) (cellsFrom (I + 3) scope.names []) (pushCells (S2.heap.push { cls := .type "dict", data := .dict #[] }) scope.names) := by
    refine ⟨⟨_, hn, _, eC, trivial⟩, fun p hp => ⟨none, pushCells_cl scope.names _ p ?_⟩⟩
    rw [Heap.size_push, hC']; exact hp
  have off : ∀ b : Nat, b ≤ I + 1 → offOwn (I + 2) (cellsFrom (I + 3) scope.names []) b := fun b hb => ⟨by omega, fun p hp => by have := cr p hp; omega⟩
  have outOk : ∀ b : Nat, outC I (ncells scope.names) b ∧ b ∉ wr → b ∉ wr ∧ b ≠ I + 1 := fun b hb => by obtain ⟨h1, h2⟩ := hb; unfold outC at h1; exact ⟨h2, by omega⟩
  have wf : ∀ b : Nat, I < b → b ∉ wr := fun b hb hm => by have := hfl b (W.sub b hm); omega
  have st0 := W.frame 0 _ (pushCells (S2.heap.push { cls := .type "dict", data := .dict #[] }) scope.names) hst fun b _ o e => kp b o e
  have inv0 : Inv 0 [] { S2 with heap := pushCells (S2.heap.push { cls := .type "dict", data := .dict #[] }) scope.names } := stable _ _ _ _ h0 (KpOn.of_keep fun b o _ e => kp b o e) (by rw [← hH2]) (by rw [← hH2])
  have loop : codeAny (model prog w) A (.compLoop (.ListComp elt [⟨.Tuple elts kt tp, iter, ifs, 0⟩] scope pos) 0 (.ref I) (.ref (I + 1)) (compEnvC scope (cellsFrom (I + 3) scope.names cl) (I + 2) env)) (RR (.ref (I + 1)) (I + 2))
      { S2 with heap := pushCells (S2.heap.push { cls := .type "dict", data := .dict #[] }) scope.names } := by
    refine compT_loop (n₁ := n₁) (own := cellsFrom (I + 3) scope.names []) (C := I + 2) W hfp (fun b hb => off b (Nat.le_succ_of_le (hfl b hb))) (wf _ (by omega)) (wf _ (by omega)) (fun p hp => wf _ (by have := cr p hp; omega)) (off _ (Nat.le_refl _)) (fun hm => by have := hfl _ hm; omega)
      Inv (fun i ys s s' hi hk => stable i ys s s' hi (hk.mono fun b hb => outOk b hb)) turn st0 eD own inv0 hsz ⟨by omega, by omega⟩ (fun p hp => by have := cr p hp; omega) (fun ys s' hi ho hl => hRR ys s' hi (let ⟨⟨m, hm, _⟩, _⟩ := ho; ⟨m, hm⟩) hl)
  exact codeAny_compStart_list loop (W.self 0 _ _ _ st0 loop)

end
end Mine
end

section
open PySem PySem.W PyProof.Rows PySem.SeqAt PySem.Calls
set_option Elab.async false
set_option maxRecDepth 100000
namespace Mine

/-- the law's own block, its frame at L -/
def lEnv (L : Addr) (pm cd : Value) : Env := callEnvC (Calls.docDef (fN 12) (fA 12) (fB 12) (fS 12) pm cd .none) L 84
def lS (i : Nat) : Stmt := (fB 12).getD i (.Pass default)

theorem KpOn.isCell {n₁ : Nat} {P : Addr → Prop} {h h' : Heap} (x : KpOn n₁ P h h') {c : Addr} {v : Option Value} (p : P c) (hc : h.IsCell c v) : h'.IsCell c v := by
  obtain ⟨o, a, d⟩ := hc
  exact ⟨o, x.get p a (by rintro ⟨_, _, e⟩; rw [d] at e; cases e), d⟩

/-- the names of the law's cells, and their places behind the frame -/
def lCells (L : Nat) : List (Str × Addr) := [(Str.ofString "laid", L + 5), (Str.ofString "ranges", L + 4), (Str.ofString "told", L + 3), (Str.ofString "worths", L + 2), (Str.ofString "script", L + 1)]
theorem lEnv_cells (L : Nat) (pm cd : Value) : (lEnv L pm cd).cells = lCells L := rfl

/-- The state of the law's run. -/
structure LS0 (prog : Program) (w : World) (s₁ : Shared) (m cm : Str → Option Value) (s : Shared) : Prop where
  ns : s.heap.Ns s₁.heap.objs.size m
  cell : ∀ n c, (lCells s₁.heap.objs.size).lookup n = some c → s.heap.IsCell c (cm n)
  gl : Gl s.heap
  stg : Stg prog w s.heap
  old : OldK s₁.heap s.heap
  os : s.os = s₁.os
  bare : AllBare s.gens
  size : s₁.heap.objs.size + 6 ≤ s.heap.objs.size
  low : 85 ≤ s₁.heap.objs.size

theorem lCells_mem {L : Nat} {n : Str} {c : Addr} (h : (lCells L).lookup n = some c) : @LT.lt Nat _ L c ∧ @LE.le Nat _ c (L + 5) := by
  unfold lCells at h
  simp only [List.lookup] at h
  repeat' (split at h)
  all_goals first
    | (injection h with h; subst h; show L < _ ∧ _ ≤ L + 5; omega)
    | cases h

theorem KpOn.size_le {n₁ : Nat} {P : Addr → Prop} {h h' : Heap} {a : Nat} (x : KpOn n₁ P h h') (p : P a) {o : Obj} (e : h.get? a = some o) : a < h'.objs.size := by
  obtain ⟨⟨sl, e'⟩, _⟩ := x a o p e
  exact Heap.lt_size e'

/-- a state that goes on from S, all that S held kept -/
theorem LS0.rn {prog : Program} {w : World} {s₁ S s : Shared} {m cm : Str → Option Value} (x : LS0 prog w s₁ m cm S) {I : Nat} (hI : s₁.heap.objs.size + 6 ≤ I) (r : Rn s₁.heap.objs.size I S s) : LS0 prog w s₁ m cm s where
  ns := r.kp.ns (show @LT.lt Nat _ _ _ by have := x.size; omega) x.ns
  cell := fun n c h => r.kp.isCell (show @LT.lt Nat _ _ _ by have := lCells_mem h; have := x.size; omega) (x.cell n c h)
  gl := x.gl.kp r.kp fun b hb => (show @LT.lt Nat _ _ _ by have := x.size; have := x.low; omega)
  stg := x.stg.get fun o e => r.kp.low (b := 58) (show @LT.lt Nat _ 58 I by have := x.size; have := x.low; omega) e (by have := x.low; show @LT.lt Nat _ 58 _; omega)
  old := r.kp.old (fun b hb => (show @LT.lt Nat _ _ _ by have := x.size; have hb' : @LT.lt Nat _ b _ := hb; omega)) (Nat.le_refl _) x.old
  os := r.os.trans x.os
  bare := r.bare x.bare
  size := by
    obtain ⟨o, a, d⟩ := x.cell (Str.ofString "laid") _ rfl
    have := r.kp.size_le (show @LT.lt Nat _ (s₁.heap.objs.size + 5) I by have := x.size; omega) a
    omega
  low := x.low

section
variable {prog : Program} {w : World} {A : Around} {E : Value → Shared → Prop} {s₁ s : Shared} {m cm : Str → Option Value} {pm cd : Value}

/-- a local name is set -/
theorem LS0.store {n : Str} {v : Value} {Q : Unit → Shared → Prop} (x : LS0 prog w s₁ m cm s) (hl : (lEnv s₁.heap.objs.size pm cd).kindOf n = some .local)
    (h : ∀ s', LS0 prog w s₁ (fun y => if y = n then some v else m y) cm s' → Heap.SameBut s₁.heap.objs.size s.heap s'.heap → Q () s') : wpAny (model prog w) A (storeName (lEnv s₁.heap.objs.size pm cd) n v) Q E s := by
  refine wpAny_storeName_local (env := lEnv s₁.heap.objs.size pm cd) hl x.ns (fun h' n' s' => h _ ?_ s') rfl
  replace s' : Heap.SameBut s₁.heap.objs.size s.heap h' := s'
  have ne : ∀ b : Nat, b ≠ s₁.heap.objs.size → ∀ o, s.heap.get? b = some o → h'.get? b = some o := fun b hb o e => s'.extBut b o hb e
  have kp : KpOn s₁.heap.objs.size (fun b => @Ne Nat b s₁.heap.objs.size) s.heap h' := KpOn.of_keep fun b o hb e => ne b hb o e
  exact ⟨n', fun n c hc => kp.isCell (show @Ne Nat _ _ by have := lCells_mem hc; omega) (x.cell n c hc), x.gl.kp kp fun b hb => (show @Ne Nat _ _ by have := x.low; omega),
    x.stg.get fun o e => ne 58 (by have := x.low; omega) o e, kp.old (fun b hb => Nat.ne_of_lt hb) (Nat.le_refl _) x.old, x.os, x.bare, by rw [show h'.objs.size = s.heap.objs.size from s'.1]; exact x.size, x.low⟩

/-- a cell is set -/
theorem LS0.storeC {n : Str} {c : Addr} {v : Value} {Q : Unit → Shared → Prop} (x : LS0 prog w s₁ m cm s) (hl : (lEnv s₁.heap.objs.size pm cd).kindOf n = some .cell) (hc : (lCells s₁.heap.objs.size).lookup n = some c)
    (ap : ∀ n' c', (lCells s₁.heap.objs.size).lookup n' = some c' → n' ≠ n → c' ≠ c)
    (h : ∀ s', LS0 prog w s₁ m (fun y => if y = n then some v else cm y) s' → Heap.SameBut c s.heap s'.heap → Q () s') : wpAny (model prog w) A (storeName (lEnv s₁.heap.objs.size pm cd) n v) Q E s := by
  refine wpAny_storeName_cell (env := lEnv s₁.heap.objs.size pm cd) rfl hl hc (x.cell n c hc) (fun h' n' s' => h _ ?_ s')
  replace s' : Heap.SameBut c s.heap h' := s'
  have hb := lCells_mem hc
  have kp : KpOn s₁.heap.objs.size (fun b => b ≠ c) s.heap h' := KpOn.of_keep fun b o hb e => s'.extBut b o hb e
  have lt : ∀ b : Nat, b ≤ s₁.heap.objs.size → b ≠ c := fun b hb' q => by have q' : @Eq Nat b c := q; omega
  refine ⟨x.ns.sameBut s' (lt _ (Nat.le_refl _)), fun n' c' hc' => ?_, x.gl.kp kp fun b hb => lt b (by have := x.low; omega), x.stg.get fun o e => s'.extBut 58 o (lt 58 (by have := x.low; omega)) e, kp.old (fun b hb => lt b (Nat.le_of_lt hb)) (Nat.le_refl _) x.old, x.os, x.bare, by rw [show h'.objs.size = s.heap.objs.size from s'.1]; exact x.size, x.low⟩
  · by_cases e : n' = n
    · subst e
      rw [hc] at hc'; cases hc'
      rw [if_pos rfl]; assumption
    · rw [if_neg e]; exact kp.isCell (ap n' c' hc' e) (x.cell n' c' hc')
end

/-- The law's state; as long as nothing is laid, all that stood at its beginning stands as it did. -/
structure LS (prog : Program) (w : World) (s₁ : Shared) (m cm : Str → Option Value) (s : Shared) : Prop extends LS0 prog w s₁ m cm s where
  tab : cm (Str.ofString "laid") = none → ∀ b o, s₁.heap.get? b = some o → s.heap.get? b = some o

theorem LS.rn {prog : Program} {w : World} {s₁ S s : Shared} {m cm : Str → Option Value} (x : LS prog w s₁ m cm S) {I : Nat} (hI : s₁.heap.objs.size + 6 ≤ I) (r : Rn s₁.heap.objs.size I S s) : LS prog w s₁ m cm s :=
  ⟨x.toLS0.rn hI r, fun hc b o e => r.kp.low (show @LT.lt Nat _ b I by have l : @LT.lt Nat _ b s₁.heap.objs.size := Heap.lt_size e; omega) (x.tab hc b o e) (Heap.lt_size e)⟩

section
variable {prog : Program} {w : World} {A : Around} {E : Value → Shared → Prop} {s₁ s : Shared} {m cm : Str → Option Value} {pm cd : Value}
theorem LS.store {n : Str} {v : Value} {Q : Unit → Shared → Prop} (x : LS prog w s₁ m cm s) (hl : (lEnv s₁.heap.objs.size pm cd).kindOf n = some .local)
    (h : ∀ s', LS prog w s₁ (fun y => if y = n then some v else m y) cm s' → Heap.SameBut s₁.heap.objs.size s.heap s'.heap → Q () s') : wpAny (model prog w) A (storeName (lEnv s₁.heap.objs.size pm cd) n v) Q E s :=
  x.toLS0.store hl fun s' x' sb => h s' ⟨x', fun hc b o e => sb.extBut b o (Nat.ne_of_lt (Heap.lt_size e)) (x.tab hc b o e)⟩ sb
theorem LS.storeC {n : Str} {c : Addr} {v : Value} {Q : Unit → Shared → Prop} (x : LS prog w s₁ m cm s) (hl : (lEnv s₁.heap.objs.size pm cd).kindOf n = some .cell) (hc : (lCells s₁.heap.objs.size).lookup n = some c)
    (ap : ∀ n' c', (lCells s₁.heap.objs.size).lookup n' = some c' → n' ≠ n → c' ≠ c)
    (h : ∀ s', LS prog w s₁ m (fun y => if y = n then some v else cm y) s' → Heap.SameBut c s.heap s'.heap → Q () s') : wpAny (model prog w) A (storeName (lEnv s₁.heap.objs.size pm cd) n v) Q E s :=
  x.toLS0.storeC hl hc ap fun s' x' sb => h s' ⟨x', fun hl' b o e => by
    have hb := lCells_mem hc
    have l : @LT.lt Nat _ b s₁.heap.objs.size := Heap.lt_size e
    refine sb.extBut b o (show @Ne Nat b c by omega) (x.tab ?_ b o e)
    by_cases q : Str.ofString "laid" = n
    · rw [if_pos q] at hl'; cases hl'
    · rw [if_neg q] at hl'; exact hl'⟩ sb
end
end Mine
end

section
open PySem PySem.W PyProof.Rows PySem.SeqAt PySem.Calls
set_option Elab.async false
set_option maxRecDepth 100000
namespace Mine

section
variable {prog : Program} {w : World} {A : Around} {E : Value → Shared → Prop} {s : Shared} {env : Env}

theorem sum_any {l : Addr} {items : Array Value} {Q : Value → Shared → Prop} (hh : A.handled = none) (hl : s.heap.IsList l items) (hi : AllInts items)
    (h : ∀ n t s', Keeps s s' → Q (.int n t) s') : wpAny (model prog w) A (call (.builtin "sum") [.ref l]) Q E s := by
  obtain ⟨xs, rfl⟩ := hi.items
  exact sum_intListG hh hl fun h' tk t' hk => h _ _ _ ⟨h', tk, rfl, hk⟩

/-- two names of a comprehension are set at once -/
theorem assign2 {cenv : Env} {x y : Str} {px py tp : Pos} {kt : Nat} {T : Addr} {va vb : Value} {m : Str → Option Value} {Q : Unit → Shared → Prop} (hh : A.handled = none) (hT : s.heap.IsTuple T #[va, vb])
    (hkx : cenv.kindOf x = some .local) (hky : cenv.kindOf y = some .local) (hp : (cenv.scope.kind == .class || (cenv.scope.kind == .module && cenv.locals != cenv.globals)) = false) (hn : s.heap.Ns cenv.locals m)
    (h : ∀ h' tk, h'.Ns cenv.locals (fun z => if z = y then some vb else if z = x then some va else m z) → (∀ b o, b ≠ cenv.locals → s.heap.get? b = some o → h'.get? b = some o) → Q () { s with heap := h', toks := tk }) :
    wpAny (model prog w) A (assign (.Tuple [.Name x px, .Name y py] kt tp) cenv (.ref T)) Q E s := by
  refine wpAny_assign_Tuple hh hT rfl rfl fun h₁ x₁ => ?_
  replace x₁ : Heap.ExtBut s.heap.objs.size s.heap h₁ := x₁
  have old₁ : ∀ b o, s.heap.get? b = some o → h₁.get? b = some o := fun b o e => x₁ b o (Nat.ne_of_lt (Heap.lt_size e)) e
  show wpAny _ _ (do holding [_] (assign (.Name x _) _ _); do holding [] (assign (.Name y _) _ _); pure ()) _ _ _
  refine wpAny_bind (wpAny_holding (wpAny_assign_Name (wpAny_storeName_local hkx (hn.keeps old₁) (fun h₂ n₂ s₂ => ?_) hp)))
  refine wpAny_bind (wpAny_holding (wpAny_assign_Name (wpAny_storeName_local hky n₂ (fun h₃ n₃ s₃ => wpAny_pure ?_) hp)))
  replace s₂ : Heap.SameBut cenv.locals h₁ h₂ := s₂
  replace s₃ : Heap.SameBut cenv.locals h₂ h₃ := s₃
  exact h h₃ _ n₃ fun b o hb e => s₃.extBut b o hb (s₂.extBut b o hb (old₁ b o e))

/-- a list and a list make a new one -/
theorem addL {l b : Addr} {i1 i2 : Array Value} {Q : Value → Shared → Prop} (hl : s.heap.IsList l i1) (hb : s.heap.IsList b i2) (hsz : i1.size + i2.size ≤ sizeLine)
    (h : Q (.ref s.heap.objs.size) { s with heap := s.heap.push { cls := .type "list", data := .seq (i1 ++ i2) } }) : wpAny (model prog w) A (binaryOp .Add (.ref l) (.ref b)) Q E s := by
  obtain ⟨⟨cls, dd, data, sl⟩, ho, hc, n, hd⟩ := id hl
  obtain ⟨⟨cls2, dd2, data2, sl2⟩, ho2, hc2, n2, hd2⟩ := id hb
  simp only at hc hd hc2 hd2
  subst hc hd hc2 hd2
  exact concat_meets ⟨_, ho, rfl⟩ ⟨_, ho2, rfl⟩ noFill_list_add seq_list_add PySem.F.slot_list_add PySem.F.entry_list_add (PySem.F.args_list_add_2 _ _) (list_addW l b i1 i2 n n2 dd dd2 sl sl2 hsz) ⟨ho, ho2, h⟩

theorem nmC {x : Str} {pos : Pos} {c : Addr} {v : Value} {Q : Value → Shared → Prop} (hc : env.cells.lookup x = some c) (hv : s.heap.IsCell c (some v)) (h : Q v s)
    (hk : env.scope.kind = .function := by rfl) (hl : env.kindOf x = some .cell := by rfl) (hd : (x == ("__debug__" : Str)) = false := by decide) :
    wpAny (model prog w) A (eval (.Name x pos) env) Q E s := wpAny_Name (wpAny_loadName_cell hk hl hc hv h) hd
end
end Mine
end

section
open PySem PySem.W PyProof.Rows PySem.SeqAt PySem.Calls
set_option Elab.async false
set_option maxRecDepth 100000
namespace Mine

section
variable {prog : Program} {w : World} {A : Around} {E : Value → Shared → Prop} {s₁ s : Shared} {m cm : Str → Option Value} {pm cd : Value}

theorem slice_ints {items : Array Value} (hi : AllInts items) (lo up st : Option Int) : AllInts (slicePick items lo up st) := by
  intro v hv
  unfold slicePick at hv
  obtain ⟨j, _, hj⟩ := List.mem_filterMap.mp (List.mem_toArray.mp hv)
  exact hi v (Array.mem_of_getElem? hj)

theorem six_list {env : Env} {a b c d e f : Int} {p0 p1 p2 p3 p4 p5 pos : Pos} {Q : Value → Shared → Prop}
    (h : ∀ (its : Array Value) (tk : Nat), its.size = 6 → AllInts its → Q (.ref s.heap.objs.size) { s with heap := s.heap.push { cls := .type "list", data := .seq its }, toks := tk }) :
    wpAny (model prog w) A (eval (.List [.Constant (.int a) 0 p0, .Constant (.int b) 0 p1, .Constant (.int c) 0 p2, .Constant (.int d) 0 p3, .Constant (.int e) 0 p4, .Constant (.int f) 0 p5] pos) env) Q E s := by
  refine wpAny_List ?_
  refine wpAny_items_cons (wpAny_Constant_int (wpAny_items_cons (wpAny_Constant_int (wpAny_items_cons (wpAny_Constant_int (wpAny_items_cons (wpAny_Constant_int (wpAny_items_cons (wpAny_Constant_int (wpAny_items_cons (wpAny_Constant_int (wpAny_items_nil ⟨by size_fits, h _ _ rfl ?_⟩))))))))))))
  intro v hv
  simp at hv
  rcases hv with rfl | rfl | rfl | rfl | rfl | rfl <;> exact ⟨_, _, rfl⟩

set_option maxHeartbeats 2000000 in
/-- the numbers -/
theorem law0 {sc : Addr} {items : Array Value} {Q : Flow → Shared → Prop} (hh : A.handled = none) (x : LS prog w s₁ m cm s) (hsc : cm (Str.ofString "script") = some (.ref sc)) (hlo : @LT.lt Nat _ sc s₁.heap.objs.size)
    (hl : s.heap.IsList sc items) (hi : AllInts items) (hz : items.size ≤ 1000)
    (h : ∀ a ns s', LS prog w s₁ (fun y => if y = Str.ofString "numbers" then some (.ref a) else m y) cm s' → s'.heap.IsList a ns → ns.size = 8 → AllInts ns → Q .next s') :
    wpAny (model prog w) A (exec (lS 0) (lEnv s₁.heap.objs.size pm cd)) Q E s := by
  refine wpAny_Assign_Name (wpAny_BinOp ?_)
  rw [arm_eval_ListComp]
  refine wpAny_comprehension_free (cl := [(Str.ofString "script", s₁.heap.objs.size + 1)]) rfl (by intro _; rfl) rfl rfl (by decide +kernel) ?_
  refine Call_ (nmB x.gl bt_enum ?_)
  refine PyProof.Rows.callWith_type1 (args_cons (six_list fun its tk hsz6 hnum => args_nil ?_))
  refine call_enumerate_list (l := s.heap.objs.size) (items := its) ⟨_, Heap.get?_push_size _ rfl, rfl, _, rfl⟩ fun h₁ he hit z₁ k₁ => ?_
  have zp : (s.heap.push { cls := .type "list", data := .seq its }).objs.size = s.heap.objs.size + 1 := Heap.size_push ..
  replace he : IsEnum h₁ ((s.heap.push { cls := .type "list", data := .seq its }).objs.size + 1) (s.heap.push { cls := .type "list", data := .seq its }).objs.size 0 .none := he
  replace hit : h₁.IsListIter (s.heap.push { cls := .type "list", data := .seq its }).objs.size s.heap.objs.size 0 := hit
  replace z₁ : h₁.objs.size = (s.heap.push { cls := .type "list", data := .seq its }).objs.size + 2 := z₁
  replace k₁ : ∀ b o, (s.heap.push { cls := .type "list", data := .seq its }).get? b = some o → h₁.get? b = some o := k₁
  rw [zp] at he hit z₁
  show wpAny _ _ (pyIter (.ref ((s.heap.push { cls := .type "list", data := .seq its }).objs.size + 1))) _ _ _
  rw [zp]
  have k₁' : ∀ b o, s.heap.get? b = some o → h₁.get? b = some o := fun b o e => k₁ b o (Heap.get?_push_of_some _ e)
  have hl₁ : h₁.IsList s.heap.objs.size its := ⟨_, k₁ _ _ (Heap.get?_push_size _ rfl), rfl, _, rfl⟩
  refine wpAny_pyIter_enum he ?_
  have hei : s.heap.objs.size + 1 + 1 ≠ s.heap.objs.size + 1 := Nat.succ_ne_self _
  have W : WalksU prog w A (s.heap.objs.size + 1 + 1) _ _ its.size _ _ _ := (WalksT.enumerateD (Draws.list (A := A.in1) hh (s.heap.objs.size + 1) s.heap.objs.size (Nat.ne_of_lt (Nat.lt_succ_self _)) its) (s.heap.objs.size + 1 + 1) hei (by simp; exact fun q => by have q' : @Eq Nat _ _ := q; omega) (by simp)).toU
  have sz := x.size
  refine compT_block (n₁ := s₁.heap.objs.size) (I := s.heap.objs.size + 1 + 1) (RR := _) W (fun i h b o st hb e => ?_) (fun b hb => ?_) (by show _ = h₁.objs.size; rw [z₁]) (by rw [hsz6]; decide)
    (fun i ys s' => Rn s₁.heap.objs.size s.heap.objs.size { s with heap := h₁, toks := tk } s' ∧ ys.length = i ∧ ∀ y ∈ ys, ∃ n t, y = .int n t) ?_ ⟨⟨_, he⟩, hit, hl₁⟩ ?_ ?_ ?_
  · obtain ⟨⟨old, st1⟩, st2, st3⟩ := st
    rcases List.mem_cons.mp hb with rfl | hb
    · have st1' : h.get? _ = some _ := st1
      rw [e] at st1'; cases st1'
      rintro ⟨_, _, q⟩; cases q
    · rcases List.mem_cons.mp hb with rfl | hb
      · exact isListIter_cls st2 e
      · rw [List.mem_singleton.mp hb] at e; exact isList_cls st3 e
  · rcases List.mem_cons.mp hb with rfl | hb
    · exact Nat.le_refl _
    · rcases List.mem_cons.mp hb with rfl | hb
      · exact Nat.le_succ _
      · rw [List.mem_singleton.mp hb]; exact Nat.le_succ_of_le (Nat.le_succ _)
  · rintro i ys s' s'' ⟨r, hlen, hall⟩ k g o
    refine ⟨⟨r.kp.trans (k.mono fun b hb => ?_), o.trans r.os, fun q => by rw [g]; exact r.bare q⟩, hlen, hall⟩
    have hb' : @LT.lt Nat _ b s.heap.objs.size := hb
    exact ⟨.inl (by omega), by simp; exact ⟨fun q => by have q' : @Eq Nat b _ := q; omega, fun q => by have q' : @Eq Nat b _ := q; omega⟩⟩
  · exact ⟨⟨KpOn.refl, rfl, fun q => q⟩, rfl, fun y hy => by cases hy⟩
  · intro i T vals ys s' hi6 hPt hT hinv hown E'
    obtain ⟨r, hlen, hall⟩ := hinv
    obtain ⟨tt, v, hv, rfl⟩ := hPt
    obtain ⟨vn, vt, rfl⟩ := hnum v (Array.mem_of_getElem? hv)
    have x' : LS prog w s₁ m cm s' := LS.rn (S := { s with heap := h₁, toks := tk }) (I := s.heap.objs.size) ⟨⟨x.ns.keeps k₁', fun n c hc => (x.cell n c hc).keeps k₁', x.gl.keeps k₁', x.stg.get fun o e => k₁' _ o e, x.old.step_keeps k₁', x.os, x.bare, by show _ ≤ h₁.objs.size; omega, x.low⟩, fun hc b o e => k₁' b o (x.tab hc b o e)⟩ sz r
    obtain ⟨⟨mc, hnc, _⟩, hoc⟩ := hown
    refine assign2 hh hT rfl rfl rfl hnc fun h₂ tk₂ n₂ k₂ => ?_
    replace k₂ : ∀ b o, @Ne Nat b (s.heap.objs.size + 1 + 1 + 2) → s'.heap.get? b = some o → h₂.get? b = some o := k₂
    refine wpAny_pure ?_
    rw [if_pos rfl]
    have cs : h₂.IsCell (s₁.heap.objs.size + 1) (some (.ref sc)) := by
      obtain ⟨o, e, d⟩ := x'.cell (Str.ofString "script") _ rfl
      exact ⟨o, k₂ _ o (by omega) e, by rw [d, hsc]⟩
    have hl₂ : h₂.IsList sc items := by
      have l0 : h₁.IsList sc items := let ⟨o, e, rr⟩ := hl; ⟨o, k₁' _ o e, rr⟩
      have l1 := r.kp.isList (a := sc) (show @LT.lt Nat _ sc _ by omega) l0
      obtain ⟨o, e, rr⟩ := l1
      exact ⟨o, k₂ _ o (by omega) e, rr⟩
    have G₂ : Gl h₂ := x'.gl.kp (n₁ := 0) (P := fun b => @LT.lt Nat _ b 85) (KpOn.of_keep fun b o (hb : @LT.lt Nat _ b 85) e => k₂ b o (by have := x.low; omega) e) fun _ q => q
    refine wpAny_BinOp (nmL n₂ (v := .int vn vt) rfl ?_)
    refine Call_ (nmB G₂ bt_sum ?_)
    refine callWith_builtin1 (args_cons (wpAny_Subscript_Slice_step slot_list_getitem.lookup (nmC (c := s₁.heap.objs.size + 1) rfl cs ?_)))
    refine wpAny_Slice ?_
    rw [evalPart_some, evalPart_none, evalPart_some]
    refine nmL n₂ (v := .int i tt) rfl (wpAny_pure (wpAny_Constant_int ⟨⟨_, Heap.get?_push_of_some _ hl₂.choose_spec.1, hl₂.choose_spec.2.1⟩, ?_⟩))
    refine wpAny_getItem_list_slice (items := items) (hl₂.push _) (Heap.IsSliceOf.new _ _ _ _) (.int _ _) .none (.int _ _) (by decide) (args_nil ?_) (by rw [sizeLine_eq]; omega)
    refine sum_any hh (items := slicePick items (some i) none (some 6)) ⟨_, Heap.get?_push_size _ rfl, rfl, _, rfl⟩ ?_ fun n t s₄ K₄ => ?_
    · exact slice_ints hi _ _ _
    · obtain ⟨h₄, tk₄, rfl, k₄⟩ := K₄
      refine P.add_int ?_
      have k₂₄ : ∀ b o, h₂.get? b = some o → h₄.get? b = some o := fun b o e => k₄ b o (Heap.get?_push_of_some _ (Heap.get?_push_of_some _ e))
      refine ⟨KpOn.of_keep fun b o hb e => k₂₄ b o (k₂ b o hb.1 e), ⟨⟨_, n₂.keeps k₂₄, ?_⟩, fun p hp => by cases hp⟩, ⟨r.kp.trans (KpOn.of_keep fun b o hb e => k₂₄ b o (k₂ b o (by have hb' : @LT.lt Nat _ b _ := hb; omega) e)), r.os, r.bare⟩, by rw [List.length_append, hlen]; rfl, fun y hy => ?_⟩
      · obtain ⟨o, _, _, e, _⟩ := n₂.keeps k₂₄
        exact ⟨o, e, trivial⟩
      · rcases List.mem_append.mp hy with hy | hy
        · exact hall y hy
        · rw [List.mem_singleton.mp hy]; exact ⟨_, _, rfl⟩
  · intro ys s' hinv hm hD
    obtain ⟨r, hlen, hall⟩ := hinv
    obtain ⟨mc, hnc⟩ := hm
    refine ⟨mc, hnc, fun h₂ s₂ => ?_⟩
    replace s₂ : Heap.SameBut (s.heap.objs.size + 1 + 1 + 2) s'.heap h₂ := s₂
    have x0 : LS prog w s₁ m cm { s with heap := h₁, toks := tk } := ⟨⟨x.ns.keeps k₁', fun n c hc => (x.cell n c hc).keeps k₁', x.gl.keeps k₁', x.stg.get fun o e => k₁' _ o e, x.old.step_keeps k₁', x.os, x.bare, by show _ ≤ h₁.objs.size; omega, x.low⟩, fun hc b o e => k₁' b o (x.tab hc b o e)⟩
    have r₂ : Rn s₁.heap.objs.size s.heap.objs.size { s with heap := h₁, toks := tk } { s' with heap := h₂ } := ⟨r.kp.trans (KpOn.of_keep fun b o hb e => s₂.extBut b o (by have hb' : @LT.lt Nat _ b _ := hb; exact Nat.ne_of_lt (by omega)) e), r.os, r.bare⟩
    have x₂ : LS prog w s₁ m cm { s' with heap := h₂ } := x0.rn sz r₂
    have D₂ : h₂.IsList (s.heap.objs.size + 1 + 1 + 1) ys.toArray := let ⟨o, e, rr⟩ := hD; ⟨o, s₂.extBut _ o (Nat.ne_of_lt (Nat.lt_succ_self _)) e, rr⟩
    have l₂ : h₂.IsList sc items := r₂.kp.isList (a := sc) (show @LT.lt Nat _ sc _ by omega) (let ⟨o, e, rr⟩ := hl; ⟨o, k₁' _ o e, rr⟩)
    have cs : h₂.IsCell (s₁.heap.objs.size + 1) (some (.ref sc)) := by
      obtain ⟨o, e, d⟩ := x₂.cell (Str.ofString "script") _ rfl
      exact ⟨o, e, by rw [d, hsc]⟩
    refine wpAny_List (wpAny_items_cons (wpAny_BinOp (wpAny_Constant_int ?_)))
    refine Call_ (nmB x₂.gl bt_sum ?_)
    refine callWith_builtin1 (args_cons (nmC (c := s₁.heap.objs.size + 1) rfl cs (args_nil ?_)))
    refine sum_any hh l₂ hi fun n t s₄ K₄ => ?_
    obtain ⟨h₄, tk₄, rfl, k₄⟩ := K₄
    replace k₄ : ∀ b o, h₂.get? b = some o → h₄.get? b = some o := k₄
    refine P.add_int (wpAny_items_cons (wpAny_Constant_int (wpAny_items_nil ⟨by size_fits, ?_⟩)))
    have D₄ := Heap.IsList.push (let ⟨o, e, rr⟩ := D₂; ⟨o, k₄ _ o e, rr⟩ : h₄.IsList (s.heap.objs.size + 1 + 1 + 1) ys.toArray)
    refine addL (D₄ _) ⟨_, Heap.get?_push_size _ rfl, rfl, _, rfl⟩ (by rw [List.size_toArray, List.size_toArray, hlen, hsz6, sizeLine_eq]; show 6 + 2 ≤ _; decide) ?_
    have up : ∀ b o, h₂.get? b = some o → ((h₄.push { cls := .type "list", data := .seq [Value.int (6 + n) tk₄, Value.int 2 (tk₄ + 1)].toArray }).push { cls := .type "list", data := .seq (ys.toArray ++ [Value.int (6 + n) tk₄, Value.int 2 (tk₄ + 1)].toArray) }).get? b = some o := fun b o e => Heap.get?_push_of_some _ (Heap.get?_push_of_some _ (k₄ b o e))
    have x₃ : LS prog w s₁ m cm { s' with heap := (h₄.push { cls := .type "list", data := .seq [Value.int (6 + n) tk₄, Value.int 2 (tk₄ + 1)].toArray }).push { cls := .type "list", data := .seq (ys.toArray ++ [Value.int (6 + n) tk₄, Value.int 2 (tk₄ + 1)].toArray) }, toks := tk₄ + 1 + 1 } :=
      LS.rn (I := h₂.objs.size) x₂ x₂.size ⟨KpOn.of_keep fun b o _ e => up b o e, rfl, fun q => q⟩
    refine x₃.store rfl fun s₅ x₅ sb₅ => ?_
    have zn : s₁.heap.objs.size ≠ (h₄.push { cls := .type "list", data := .seq [Value.int (6 + n) tk₄, Value.int 2 (tk₄ + 1)].toArray }).objs.size := by
      have a1 : s₁.heap.objs.size < h₄.objs.size := Heap.Ns.lt (x₂.ns.keeps k₄)
      rw [Heap.size_push]; omega
    refine h _ (ys.toArray ++ [Value.int (6 + n) tk₄, Value.int 2 (tk₄ + 1)].toArray) s₅ x₅ ⟨_, sb₅.extBut _ _ (Ne.symm zn) (Heap.get?_push_size _ rfl), rfl, _, rfl⟩ (by rw [Array.size_append, List.size_toArray, List.size_toArray, hlen, hsz6]; rfl) ?_
    intro v hv
    rcases Array.mem_append.mp hv with hv | hv
    · exact hall v (List.mem_toArray.mp hv)
    · simp at hv
      rcases hv with rfl | rfl <;> exact ⟨_, _, rfl⟩
end
end Mine
end

section
open PySem PySem.W PyProof.Rows PySem.SeqAt PySem.Calls
set_option Elab.async false
set_option maxRecDepth 100000
namespace Mine

section
variable {prog : Program} {w : World} {A : Around} {E : Value → Shared → Prop} {n₁ : Nat} {env : Env}

/-- a turn whose target is one plain name, with no test, and whose element only adds to the heap -/
theorem turn1K {scope : Scope} {cl : List (Str × Addr)} {elt : Expr} {x : Str} {px : Pos} {S : Shared} {n : Nat} {P : Nat → Value → Prop} {Y : Nat → Value → Heap → Prop}
    (hk : (compEnvC scope (cellsFrom (S.heap.objs.size + 3) scope.names cl) (S.heap.objs.size + 2) env).kindOf x = some .local) (hf : scope.kind = .function)
    (h : ∀ (i : Nat) (v : Value) (s : Shared) (h₂ : Heap) (tk : Nat) (m : Str → Option Value), i < n → P i v → Rn n₁ S.heap.objs.size S s → h₂.Ns (S.heap.objs.size + 2) (fun y => if y = x then some v else m y) → (∀ b o, @Ne Nat b (S.heap.objs.size + 2) → s.heap.get? b = some o → h₂.get? b = some o) →
      ∀ E' : Value → Shared → Prop, wpAny (model prog w) A (eval elt (compEnvC scope (cellsFrom (S.heap.objs.size + 3) scope.names cl) (S.heap.objs.size + 2) env)) (fun y s₄ => Keeps { s with heap := h₂, toks := tk } s₄ ∧ Y i y s₄.heap) E' { s with heap := h₂, toks := tk }) :
    MTurnA prog w A n₁ env scope cl elt (.Name x px) [] S n P (fun _ => true) Y := by
  intro i v s hi hP r hown E'
  obtain ⟨⟨m, hn, _⟩, hoc⟩ := hown
  have cr := cellsFrom_range scope.names (S.heap.objs.size + 3)
  refine wpAny_assign_Name (wpAny_storeName_local hk hn (fun h₂ n₂ s₂ => ?_) (by show (scope.kind == .class || (scope.kind == .module && _)) = false; rw [hf]; rfl))
  replace s₂ : Heap.SameBut (S.heap.objs.size + 2) s.heap h₂ := s₂
  replace n₂ : h₂.Ns (S.heap.objs.size + 2) (fun y => if y = x then some v else m y) := n₂
  refine wpAny_pure ⟨rfl, ?_⟩
  rw [if_pos rfl]
  refine wpAny_mono (h i v s h₂ _ m hi hP r n₂ (fun b o hb e => s₂.extBut b o hb e) E') (fun y s₄ h₄ => ?_) fun _ _ q => q
  obtain ⟨⟨h₄, tk₄, rfl, k₄⟩, hy⟩ := h₄
  replace k₄ : ∀ b o, h₂.get? b = some o → h₄.get? b = some o := k₄
  refine ⟨⟨KpOn.of_keep fun b o hb e => k₄ b o (s₂.extBut b o hb.1 e), ⟨⟨_, n₂.keeps k₄, ?_⟩, fun p hp => ?_⟩, rfl, fun q => q⟩, hy⟩
  · obtain ⟨o, _, _, e, _⟩ := n₂.keeps k₄
    exact ⟨o, e, trivial⟩
  · obtain ⟨v, o, a, b, d⟩ := hoc p hp
    exact ⟨v, o, k₄ _ o (s₂.extBut _ o (by have := cr p hp; show @Ne Nat _ _; omega) a), b, d⟩
end

section
variable {prog : Program} {w : World} {A : Around} {E : Value → Shared → Prop} {s₁ s : Shared} {m cm : Str → Option Value} {pm cd : Value}

/-- what stands at a place of the numbers -/
def xAt (ns : Array Value) (i : Nat) : Int := match ns[i]? with | some (.int n _) => n | _ => 0
theorem xAt_item {ns : Array Value} (h : AllInts ns) {i : Nat} {v : Value} (e : ns[i]? = some v) : ∃ t, v = .int (xAt ns i) t := by
  obtain ⟨n, t, rfl⟩ := h v (Array.mem_of_getElem? e)
  exact ⟨t, by unfold xAt; rw [e]⟩

/-- a list of lists of the law's -/
def TLs (h : Heap) (a : Addr) (f : Nat → List TV) (n : Nat) : Prop := ∃ vs, h.IsList a vs ∧ vs.size = n ∧ ∀ i, i < n → ∃ b us, vs[i]? = some (.ref b) ∧ h.IsList b us ∧ Holds2 us.toList (f i)
/-- a list of texts -/
def SLs (h : Heap) (a : Addr) (f : Nat → Str) (n : Nat) : Prop := ∃ vs, h.IsList a vs ∧ vs.size = n ∧ ∀ i, i < n → ∃ t, vs[i]? = some (.str (f i) t)

theorem TLs.kp {n₁ I : Nat} {h h' : Heap} {a : Addr} {f : Nat → List TV} {n : Nat} (x : TLs h a f n) (k : KpOn n₁ (fun b => @LT.lt Nat _ b I) h h') (hI : h.objs.size ≤ I) : TLs h' a f n := by
  have lt : ∀ {b : Addr} {us : Array Value}, h.IsList b us → @LT.lt Nat _ b I := fun {b us} hl => by obtain ⟨o, e, _⟩ := hl; exact Nat.lt_of_lt_of_le (Heap.lt_size e) hI
  obtain ⟨vs, hl, hn, hi⟩ := x
  refine ⟨vs, k.isList (lt hl) hl, hn, fun i hin => ?_⟩
  obtain ⟨b, us, e, hb, hu⟩ := hi i hin
  exact ⟨b, us, e, k.isList (lt hb) hb, hu⟩
theorem SLs.kp {n₁ I : Nat} {h h' : Heap} {a : Addr} {f : Nat → Str} {n : Nat} (x : SLs h a f n) (k : KpOn n₁ (fun b => @LT.lt Nat _ b I) h h') (hI : h.objs.size ≤ I) : SLs h' a f n := by
  obtain ⟨vs, hl, hn, hi⟩ := x
  have : @LT.lt Nat _ a I := by obtain ⟨o, e, _⟩ := hl; exact Nat.lt_of_lt_of_le (Heap.lt_size e) hI
  exact ⟨vs, k.isList this hl, hn, hi⟩
end
end Mine
end

section
open PySem PySem.W PyProof.Rows PySem.SeqAt PySem.Calls
set_option Elab.async false
set_option maxRecDepth 100000
namespace Mine

section
variable {prog : Program} {w : World} {A : Around} {E : Value → Shared → Prop} {s₁ s : Shared} {m cm : Str → Option Value} {pm cd : Value}

/-- what all2 over a whole range tells -/
theorem all2_range {n : Nat} {Y : Nat → Value → Prop} {ys : List Value} (h : All2 Y (idx (fun _ => true) n) ys) : ys.length = n ∧ ∀ i, i < n → ∃ y, ys[i]? = some y ∧ Y i y := by
  rw [idx_all] at h
  exact ⟨by have := h.length; simpa using this.symm, fun i hi => h.get i i (by simp [hi])⟩

set_option maxHeartbeats 1000000 in
/-- the texts -/
theorem texts_comp {a : Addr} {ns : Array Value} {Q : Value → Shared → Prop} (hh : A.handled = none) (hroom : A.depth + 5 < recursionLimit) (x : LS prog w s₁ m cm s) (hm : m (Str.ofString "numbers") = some (.ref a))
    (hl : s.heap.IsList a ns) (hn : ns.size = 8) (hi : AllInts ns)
    (h : ∀ b s', LS prog w s₁ m cm s' → KpOn s₁.heap.objs.size (fun c => @LT.lt Nat _ c s.heap.objs.size) s.heap s'.heap → SLs s'.heap b (fun i => spelled (xAt ns i)) 8 → Q (.ref b) s') :
    wpAny (model prog w) A (eval (match lS 1 with | .Assign _ (.Tuple (e :: _) _ _) _ => e | _ => .Name Str.empty default) (lEnv s₁.heap.objs.size pm cd)) Q E s := by
  show wpAny _ _ (eval (.ListComp _ _ _ _) _) _ _ _
  rw [arm_eval_ListComp]
  refine mapA_list (n₁ := s₁.heap.objs.size) (cl := []) rfl rfl (by decide +kernel) (nmL x.ns hm ?_)
  have sz := x.size
  have alt : @LT.lt Nat _ a s.heap.objs.size := by obtain ⟨o, e, _⟩ := hl; exact Heap.lt_size e
  refine ⟨a, ns, rfl, hl, by rw [hn]; decide, hh, fun _ => true, fun i y h => ∃ t, y = .str (spelled (xAt ns i)) t, fun i y h h' q _ => q, ?_, fun ys s' r al hm' hD => ?_⟩
  · refine turn1K rfl rfl fun i v s' h₂ tk mm hi8 hv r n₂ k₂ E' => ?_
    obtain ⟨t, rfl⟩ := xAt_item hi hv
    have x' : LS prog w s₁ m cm s' := x.rn sz r
    have G₂ : Gl h₂ := x'.gl.kp (n₁ := 0) (P := fun b => @LT.lt Nat _ b 85) (KpOn.of_keep fun b o (hb : @LT.lt Nat _ b 85) e => k₂ b o (by have := x.low; omega) e) fun _ q => q
    refine Call_ (nmG G₂ gt_spelled (call_fn1 G₂.f10 (nmL n₂ (v := .int (xAt ns i) t) rfl ⟨rfl, spelled_call G₂ (by omega) fun t' s₄ K => ⟨K, t', rfl⟩⟩)))
  · obtain ⟨mc, hnc⟩ := hm'
    refine ⟨mc, hnc, fun h₂ s₂ => ?_⟩
    replace s₂ : Heap.SameBut (s.heap.objs.size + 2) s'.heap h₂ := s₂
    have r₂ : Rn s₁.heap.objs.size s.heap.objs.size s { s' with heap := h₂ } := ⟨r.kp.trans (KpOn.of_keep fun b o hb e => s₂.extBut b o (by have hb' : @LT.lt Nat _ b _ := hb; exact Nat.ne_of_lt (by omega)) e), r.os, r.bare⟩
    obtain ⟨hlen, hall⟩ := all2_range al
    refine h _ _ (x.rn sz r₂) r₂.kp ⟨ys.toArray, (let ⟨o, e, rr⟩ := hD; ⟨o, s₂.extBut _ o (Nat.ne_of_lt (Nat.lt_succ_self _)) e, rr⟩), by rw [List.size_toArray, hlen, hn], fun i hi8 => ?_⟩
    obtain ⟨y, hy, t, rfl⟩ := hall i (by omega)
    exact ⟨t, by simpa using hy⟩

set_option maxHeartbeats 1000000 in
/-- the worths -/
theorem worths_comp {a : Addr} {ns : Array Value} {Q : Value → Shared → Prop} (hh : A.handled = none) (hroom : A.depth + 5 < recursionLimit) (x : LS prog w s₁ m cm s) (hm : m (Str.ofString "numbers") = some (.ref a))
    (hl : s.heap.IsList a ns) (hn : ns.size = 8) (hi : AllInts ns)
    (h : ∀ b s', LS prog w s₁ m cm s' → KpOn s₁.heap.objs.size (fun c => @LT.lt Nat _ c s.heap.objs.size) s.heap s'.heap → TLs s'.heap b (fun i => wd (xAt ns i)) 8 → Q (.ref b) s') :
    wpAny (model prog w) A (eval (match lS 1 with | .Assign _ (.Tuple (_ :: e :: _) _ _) _ => e | _ => .Name Str.empty default) (lEnv s₁.heap.objs.size pm cd)) Q E s := by
  show wpAny _ _ (eval (.ListComp _ _ _ _) _) _ _ _
  rw [arm_eval_ListComp]
  refine mapA_list (n₁ := s₁.heap.objs.size) (cl := []) rfl rfl (by decide +kernel) (nmL x.ns hm ?_)
  have sz := x.size
  refine ⟨a, ns, rfl, hl, by rw [hn]; decide, hh, fun _ => true, fun i y h => ∃ b us, y = .ref b ∧ @LE.le Nat _ (s.heap.objs.size + 3) b ∧ h.IsList b us ∧ Holds2 us.toList (wd (xAt ns i)), ?_, ?_, fun ys s' r al hm' hD => ?_⟩
  · rintro i y h h' ⟨b, us, rfl, hb, hl, hu⟩ k
    exact ⟨b, us, rfl, hb, k.isList (.inr hb) hl, hu⟩
  · refine turn1K rfl rfl fun i v s' h₂ tk mm hi8 hv r n₂ k₂ E' => ?_
    obtain ⟨t, rfl⟩ := xAt_item hi hv
    have x' : LS prog w s₁ m cm s' := x.rn sz r
    have G₂ : Gl h₂ := x'.gl.kp (n₁ := 0) (P := fun b => @LT.lt Nat _ b 85) (KpOn.of_keep fun b o (hb : @LT.lt Nat _ b 85) e => k₂ b o (by have := x.low; omega) e) fun _ q => q
    have hz : s.heap.objs.size + 2 < h₂.objs.size := n₂.lt
    refine Call_ (nmG G₂ gt_worth (call_fn1 G₂.f11 (nmL n₂ (v := .int (xAt ns i) t) rfl ⟨rfl, worth_call G₂.f11 G₂.lim (by omega) fun v' s₄ K T => ⟨K, ?_⟩⟩)))
    obtain ⟨b, us, rfl, hb, hlb, hu⟩ := T
    exact ⟨b, us, rfl, Nat.le_trans hz hb, hlb, hu⟩
  · obtain ⟨mc, hnc⟩ := hm'
    refine ⟨mc, hnc, fun h₂ s₂ => ?_⟩
    replace s₂ : Heap.SameBut (s.heap.objs.size + 2) s'.heap h₂ := s₂
    have r₂ : Rn s₁.heap.objs.size s.heap.objs.size s { s' with heap := h₂ } := ⟨r.kp.trans (KpOn.of_keep fun b o hb e => s₂.extBut b o (by have hb' : @LT.lt Nat _ b _ := hb; exact Nat.ne_of_lt (by omega)) e), r.os, r.bare⟩
    obtain ⟨hlen, hall⟩ := all2_range al
    refine h _ _ (x.rn sz r₂) r₂.kp ⟨ys.toArray, (let ⟨o, e, rr⟩ := hD; ⟨o, s₂.extBut _ o (Nat.ne_of_lt (Nat.lt_succ_self _)) e, rr⟩), by rw [List.size_toArray, hlen, hn], fun i hi8 => ?_⟩
    obtain ⟨y, hy, b, us, rfl, hb, hlb, hu⟩ := hall i (by omega)
    exact ⟨b, us, by simpa using hy, (let ⟨o, e, rr⟩ := hlb; ⟨o, s₂.extBut _ o (Nat.ne_of_gt (by omega)) e, rr⟩), hu⟩

/-- no list stands there -/
def NoSeq (h : Heap) (c : Addr) : Prop := ∀ o vs n, h.get? c = some o → o.data ≠ .seq vs n
theorem noSeq_ns {h : Heap} {c : Addr} {m : Str → Option Value} (x : h.Ns c m) : NoSeq h c := fun o vs n e q => by
  obtain ⟨o', es, ep, e', d, _⟩ := x
  rw [e] at e'; cases e'; rw [d] at q; cases q
theorem noSeq_cell {h : Heap} {c : Addr} {v : Option Value} (x : h.IsCell c v) : NoSeq h c := fun o vs n e q => by
  obtain ⟨o', e', d⟩ := x
  rw [e] at e'; cases e'; rw [d] at q; cases q
theorem list_same {h h' : Heap} {c a : Addr} {vs : Array Value} (hc : NoSeq h c) (sb : Heap.SameBut c h h') (hl : h.IsList a vs) : h'.IsList a vs := by
  obtain ⟨o, e, hcl, n, d⟩ := hl
  exact ⟨o, sb.extBut a o (fun q => by subst q; exact hc o vs n e d) e, hcl, n, d⟩
theorem SLs.same {h h' : Heap} {c a : Addr} {f : Nat → Str} {n : Nat} (x : SLs h a f n) (hc : NoSeq h c) (sb : Heap.SameBut c h h') : SLs h' a f n :=
  let ⟨vs, hl, r⟩ := x; ⟨vs, list_same hc sb hl, r⟩
theorem TLs.same {h h' : Heap} {c a : Addr} {f : Nat → List TV} {n : Nat} (x : TLs h a f n) (hc : NoSeq h c) (sb : Heap.SameBut c h h') : TLs h' a f n := by
  obtain ⟨vs, hl, hn, hi⟩ := x
  refine ⟨vs, list_same hc sb hl, hn, fun i hin => ?_⟩
  obtain ⟨b, us, e, hb, hu⟩ := hi i hin
  exact ⟨b, us, e, list_same hc sb hb, hu⟩

theorem cells_apart {L : Nat} {n n' : Str} {c c' : Addr} (h : (lCells L).lookup n = some c) (h' : (lCells L).lookup n' = some c') (hne : n' ≠ n) : c' ≠ c := by
  have inj : ∀ {n : Str} {c : Addr}, (lCells L).lookup n = some c → (n = Str.ofString "laid" ∧ @Eq Nat c (L + 5)) ∨ (n = Str.ofString "ranges" ∧ @Eq Nat c (L + 4)) ∨ (n = Str.ofString "told" ∧ @Eq Nat c (L + 3)) ∨ (n = Str.ofString "worths" ∧ @Eq Nat c (L + 2)) ∨ (n = Str.ofString "script" ∧ @Eq Nat c (L + 1)) := fun {n c} h => by
    unfold lCells at h
    simp only [List.lookup] at h
    split at h
    · rename_i q; injection h with h; exact .inl ⟨eq_of_beq q, h.symm⟩
    · split at h
      · rename_i q; injection h with h; exact .inr (.inl ⟨eq_of_beq q, h.symm⟩)
      · split at h
        · rename_i q; injection h with h; exact .inr (.inr (.inl ⟨eq_of_beq q, h.symm⟩))
        · split at h
          · rename_i q; injection h with h; exact .inr (.inr (.inr (.inl ⟨eq_of_beq q, h.symm⟩)))
          · split at h
            · rename_i q; injection h with h; exact .inr (.inr (.inr (.inr ⟨eq_of_beq q, h.symm⟩)))
            · cases h
  intro q
  have q' : @Eq Nat c' c := q
  rcases inj h with ⟨a, b⟩ | ⟨a, b⟩ | ⟨a, b⟩ | ⟨a, b⟩ | ⟨a, b⟩ <;> rcases inj h' with ⟨a', b'⟩ | ⟨a', b'⟩ | ⟨a', b'⟩ | ⟨a', b'⟩ | ⟨a', b'⟩ <;> first | (exact hne (a'.trans a.symm)) | omega

set_option maxHeartbeats 1000000 in
/-- texts and worths -/
theorem law1 {a : Addr} {ns : Array Value} {Q : Flow → Shared → Prop} (hh : A.handled = none) (hroom : A.depth + 5 < recursionLimit) (x : LS prog w s₁ m cm s) (hm : m (Str.ofString "numbers") = some (.ref a))
    (hl : s.heap.IsList a ns) (hn : ns.size = 8) (hi : AllInts ns)
    (h : ∀ b c s', LS prog w s₁ (fun y => if y = Str.ofString "texts" then some (.ref b) else m y) (fun y => if y = Str.ofString "worths" then some (.ref c) else cm y) s' → SLs s'.heap b (fun i => spelled (xAt ns i)) 8 → TLs s'.heap c (fun i => wd (xAt ns i)) 8 → Q .next s') :
    wpAny (model prog w) A (exec (lS 1) (lEnv s₁.heap.objs.size pm cd)) Q E s := by
  refine wpAny_Assign_stores (wpAny_Tuple (wpAny_items_cons (texts_comp hh hroom x hm hl hn hi fun b s₂ x₂ k₂ T₂ => ?_))) rfl rfl
  have hl₂ : s₂.heap.IsList a ns := k₂.isList (by obtain ⟨o, e, _⟩ := hl; exact Heap.lt_size e) hl
  refine wpAny_items_cons (worths_comp hh hroom x₂ hm hl₂ hn hi fun c s₃ x₃ k₃ W₃ => wpAny_items_nil ⟨by size_fits, ?_⟩)
  have T₃ := T₂.kp k₃ (Nat.le_refl _)
  have up : ∀ d o, s₃.heap.get? d = some o → (s₃.heap.push { cls := .type "tuple", data := .seq [Value.ref b, Value.ref c].toArray }).get? d = some o := fun d o e => Heap.get?_push_of_some _ e
  show wpAny _ _ (assign (.Tuple [.Name (Str.ofString "texts") ⟨69, 4, 69, 9⟩, .Name (Str.ofString "worths") ⟨69, 11, 69, 17⟩] 0 ⟨69, 4, 69, 17⟩) (lEnv s₁.heap.objs.size pm cd) (.ref s₃.heap.objs.size)) _ _ _
  refine wpAny_assign_Tuple hh (items := #[.ref b, .ref c]) ⟨_, Heap.get?_push_size _ rfl, rfl, _, rfl⟩ rfl rfl fun h₄ x₄ => ?_
  replace x₄ : Heap.ExtBut (s₃.heap.push { cls := .type "tuple", data := .seq [Value.ref b, Value.ref c].toArray }).objs.size (s₃.heap.push { cls := .type "tuple", data := .seq [Value.ref b, Value.ref c].toArray }) h₄ := x₄
  have up₄ : ∀ d o, s₃.heap.get? d = some o → h₄.get? d = some o := fun d o e => x₄ d o (Nat.ne_of_lt (Heap.lt_size (up d o e))) (up d o e)
  have r₄ : Rn s₁.heap.objs.size s₃.heap.objs.size s₃ { s₃ with heap := h₄ } := ⟨KpOn.of_keep fun d o _ e => up₄ d o e, rfl, fun q => q⟩
  have L₄ : LS prog w s₁ m cm { s₃ with heap := h₄ } := x₃.rn x₃.size r₄
  have TT : SLs h₄ b (fun i => spelled (xAt ns i)) 8 := T₃.kp r₄.kp (Nat.le_refl _)
  have WW : TLs h₄ c (fun i => wd (xAt ns i)) 8 := W₃.kp r₄.kp (Nat.le_refl _)
  show wpAny _ _ (do holding [_] (assign (.Name (Str.ofString "texts") _) _ _); do holding [] (assign (.Name (Str.ofString "worths") _) _ _); pure ()) _ _ _
  refine wpAny_bind (wpAny_holding (wpAny_assign_Name (L₄.store rfl fun s₅ L₅ sb₅ => ?_)))
  refine wpAny_bind (wpAny_holding (wpAny_assign_Name (L₅.storeC (c := s₁.heap.objs.size + 2) rfl rfl (fun n' c' h' hne => cells_apart (n := Str.ofString "worths") rfl h' hne) fun s₆ L₆ sb₆ => wpAny_pure ?_)))
  have nL : NoSeq h₄ s₁.heap.objs.size := noSeq_ns L₄.ns
  have nC : NoSeq s₅.heap (s₁.heap.objs.size + 2) := noSeq_cell (L₅.cell (Str.ofString "worths") _ rfl)
  exact h b c s₆ L₆ ((TT.same nL sb₅).same nC sb₆) ((WW.same nL sb₅).same nC sb₆)
end
end Mine
end

section
open PySem PySem.W PyProof.Rows PySem.SeqAt PySem.Calls
set_option Elab.async false
set_option maxRecDepth 100000
namespace Mine

section
variable {prog : Program} {w : World} {A : Around} {E : Value → Shared → Prop} {n₁ : Nat} {env : Env}

/-- the same for the caller's stack; tables may change their slots -/
theorem turn1C {scope : Scope} {cl : List (Str × Addr)} {elt : Expr} {x : Str} {px : Pos} {S : Shared} {n : Nat} {P : Nat → Value → Prop} {Y : Nat → Value → Heap → Prop}
    (hk : (compEnvC scope (cellsFrom (S.heap.objs.size + 3) scope.names cl) (S.heap.objs.size + 2) env).kindOf x = some .local) (hf : scope.kind = .function)
    (h : ∀ (i : Nat) (v : Value) (s : Shared) (h₂ : Heap) (tk : Nat) (m : Str → Option Value), i < n → P i v → Rn n₁ S.heap.objs.size S s → h₂.Ns (S.heap.objs.size + 2) (fun y => if y = x then some v else m y) → (∀ b o, @Ne Nat b (S.heap.objs.size + 2) → s.heap.get? b = some o → h₂.get? b = some o) →
      ∀ E' : Value → Shared → Prop, wpC (model prog w) A (eval elt (compEnvC scope (cellsFrom (S.heap.objs.size + 3) scope.names cl) (S.heap.objs.size + 2) env)) (fun y s₄ => (∃ h₄ tk₄, s₄ = { s with heap := h₄, toks := tk₄ } ∧ Kp n₁ h₂ h₄) ∧ Y i y s₄.heap) E' { s with heap := h₂, toks := tk }) :
    MTurnC prog w A n₁ env scope cl elt (.Name x px) [] S n P (fun _ => true) Y := by
  intro i v s hi hP r hown E'
  obtain ⟨⟨m, hn, _⟩, hoc⟩ := hown
  have cr := cellsFrom_range scope.names (S.heap.objs.size + 3)
  refine wpAny_assign_Name (wpAny_storeName_local hk hn (fun h₂ n₂ s₂ => ?_) (by show (scope.kind == .class || (scope.kind == .module && _)) = false; rw [hf]; rfl))
  replace s₂ : Heap.SameBut (S.heap.objs.size + 2) s.heap h₂ := s₂
  replace n₂ : h₂.Ns (S.heap.objs.size + 2) (fun y => if y = x then some v else m y) := n₂
  refine wpAny_pure ⟨rfl, ?_⟩
  rw [if_pos rfl]
  refine wpC_mono (h i v s h₂ _ m hi hP r n₂ (fun b o hb e => s₂.extBut b o hb e) E') (fun y s₄ h₄ => ?_) fun _ _ q => q
  obtain ⟨⟨h₄, tk₄, rfl, k₄⟩, hy⟩ := h₄
  refine ⟨⟨KpOn.trans (KpOn.of_keep fun b o hb e => s₂.extBut b o hb.1 e) (k₄.mono fun _ _ => trivial), ⟨⟨_, k₄.ns trivial n₂, ?_⟩, fun p hp => ?_⟩, rfl, fun q => q⟩, hy⟩
  · obtain ⟨o, _, _, e, _⟩ := k₄.ns trivial n₂
    exact ⟨o, e, trivial⟩
  · obtain ⟨v, o, a, b, d⟩ := hoc p hp
    have c2 : IsCl h₂ p.2 v := ⟨o, s₂.extBut _ o (by have := cr p hp; show @Ne Nat _ _; omega) a, b, d⟩
    exact ⟨v, k₄.isCl trivial c2⟩
end

section
variable {prog : Program} {w : World} {A : Around} {E : Value → Shared → Prop} {s₁ s : Shared} {m cm : Str → Option Value} {pm cd : Value}

set_option maxHeartbeats 1000000 in
/-- what _comparable_version tells -/
theorem law2 {a : Addr} {X : Nat → Int} {Q : Flow → Shared → Prop} (hh : A.handled = none) (hfr : A.frames = some [lEnv s₁.heap.objs.size pm cd]) (hroom : A.depth + 5 < recursionLimit) (x : LS prog w s₁ m cm s) (hm : m (Str.ofString "texts") = some (.ref a))
    (hl : SLs s.heap a (fun i => spelled (X i)) 8)
    (h : ∀ b s', LS prog w s₁ m (fun y => if y = Str.ofString "told" then some (.ref b) else cm y) s' → (∀ I, s.heap.objs.size ≤ I → KpOn s₁.heap.objs.size (fun c => @LT.lt Nat _ c s.heap.objs.size ∧ @Ne Nat c (s₁.heap.objs.size + 3)) s.heap s'.heap) → TLs s'.heap b (fun i => td (X i)) 8 → Q .next s') :
    wpC (model prog w) A (exec (lS 2) (lEnv s₁.heap.objs.size pm cd)) Q E s := by
  obtain ⟨vs, hlv, hvn, hvi⟩ := hl
  refine wpC_Assign_Name ?_
  rw [arm_eval_ListComp]
  refine mapC_list (n₁ := s₁.heap.objs.size) (cl := []) rfl rfl (by decide +kernel) (nmL x.ns hm ?_)
  have sz := x.size
  refine ⟨a, vs, rfl, hlv, by rw [hvn]; decide, hh, fun _ => true, fun i y h => ∃ b us, y = .ref b ∧ @LE.le Nat _ (s.heap.objs.size + 3) b ∧ h.IsList b us ∧ Holds2 us.toList (td (X i)), ?_, ?_, fun ys s' r al hm' hD => ?_⟩
  · rintro i y h h' ⟨b, us, rfl, hb, hl, hu⟩ k
    exact ⟨b, us, rfl, hb, k.isList (.inr hb) hl, hu⟩
  · refine turn1C rfl rfl fun i v s' h₂ tk mm hi8 hv r n₂ k₂ E' => ?_
    obtain ⟨t, ht⟩ := hvi i (by omega)
    have hv' : vs[i]? = some v := hv
    rw [ht] at hv'
    cases hv'
    have x' : LS prog w s₁ m cm s' := x.rn sz r
    have low := x.low
    have G₂ : Gl h₂ := x'.gl.kp (n₁ := 0) (P := fun b => @LT.lt Nat _ b 85) (KpOn.of_keep fun b o (hb : @LT.lt Nat _ b 85) e => k₂ b o (by omega) e) fun _ q => q
    have S₂ : Stg prog w h₂ := x'.stg.get fun o e => k₂ 58 o (by omega) e
    have nf₂ : h₂.Ns s₁.heap.objs.size m := x'.ns.at' fun o e => k₂ _ o (by omega) e
    have hz : s.heap.objs.size + 2 < h₂.objs.size := n₂.lt
    obtain ⟨ps, hsp, hpc, hpl, hxs⟩ := spelled_pieces (X i)
    refine wpC_Call (nmG G₂ gt_comp (callWithC_fn1 G₂.f8 (nmL n₂ (v := .str (spelled (X i)) t) rfl ⟨rfl, ?_⟩)))
    refine comparable_call (Lf := s₁.heap.objs.size) hh hfr (by show (fS 12).kind ≠ .module; decide +kernel) rfl low G₂ S₂ nf₂ hroom hsp hpc hxs hpl fun h₄ tk₄ v k₄ kf T => ⟨⟨h₄, tk₄, rfl, ?_⟩, ?_⟩
    · intro b o _ e
      by_cases hb : b = s₁.heap.objs.size
      · subst hb
        obtain ⟨sl, e'⟩ := kf o e
        refine ⟨⟨sl, e'⟩, fun q => ?_⟩
        exfalso
        rcases q with q | q
        · obtain ⟨o', es, ep, e2, d, _⟩ := nf₂
          have e3 : h₂.get? s₁.heap.objs.size = some o := e
          rw [e3] at e2; cases e2
          exact q ⟨es, ep, d⟩
        · exact Nat.lt_irrefl _ q
      · exact ⟨⟨o.slots, k₄ b o hb e⟩, fun _ => k₄ b o hb e⟩
    · obtain ⟨b, us, rfl, hb, hlb, hu⟩ := T
      exact ⟨b, us, rfl, Nat.le_trans hz hb, hlb, hu⟩
  · obtain ⟨mc, hnc⟩ := hm'
    refine ⟨mc, hnc, fun h₂ s₂ => ?_⟩
    replace s₂ : Heap.SameBut (s.heap.objs.size + 2) s'.heap h₂ := s₂
    have r₂ : Rn s₁.heap.objs.size s.heap.objs.size s { s' with heap := h₂ } := ⟨r.kp.trans (KpOn.of_keep fun b o hb e => s₂.extBut b o (by have hb' : @LT.lt Nat _ b _ := hb; exact Nat.ne_of_lt (by omega)) e), r.os, r.bare⟩
    obtain ⟨hlen, hall⟩ := all2_range al
    have T₂ : TLs h₂ (s.heap.objs.size + 1) (fun i => td (X i)) 8 := by
      refine ⟨ys.toArray, (let ⟨o, e, rr⟩ := hD; ⟨o, s₂.extBut _ o (Nat.ne_of_lt (Nat.lt_succ_self _)) e, rr⟩), by rw [List.size_toArray, hlen, hvn], fun i hi8 => ?_⟩
      obtain ⟨y, hy, b, us, rfl, hb, hlb, hu⟩ := hall i (by omega)
      exact ⟨b, us, by simpa using hy, (let ⟨o, e, rr⟩ := hlb; ⟨o, s₂.extBut _ o (Nat.ne_of_gt (by omega)) e, rr⟩), hu⟩
    have x₂ := x.rn sz r₂
    refine x₂.storeC (c := s₁.heap.objs.size + 3) rfl rfl (fun n' c' h' hne => cells_apart (n := Str.ofString "told") rfl h' hne) fun s₆ L₆ sb₆ => ?_
    exact h _ s₆ L₆ (fun I _ => (r₂.kp.mono fun b hb => hb.1).trans (KpOn.of_keep fun b o hb e => sb₆.extBut b o hb.2 e)) (T₂.same (noSeq_cell (x₂.cell (Str.ofString "told") _ rfl)) sb₆)
end
end Mine
end

section
open PySem PySem.W PyProof.Rows PySem.SeqAt PySem.Calls
set_option Elab.async false
set_option maxRecDepth 100000
namespace Mine

theorem compTurn_d1 (elt target iter : Expr) (g₁ : Comprehension) (ifs : List Expr) (scope : Scope) (pos : Pos) (it acc : Value) (env : Env) :
    compTurn (.ListComp elt [g₁, ⟨target, iter, ifs, 0⟩] scope pos) 1 it acc env = (standAt iter.pos >>= fun _ => pyNext it >>= fun r => match r with
      | none => pure (.done .next)
      | some v => letOwnedTupleGo target it v >>= fun _ => assign target env v >>= fun _ =>
        (forIn ifs true fun c r => if r = true then do let ok ← isTrue c env (eval c env); pure (ForInStep.yield ok) else pure (ForInStep.yield r)) >>= fun ok =>
        if ok = true then (eval elt env >>= fun x => call (.builtin "list.append") [acc, x] >>= fun _ => pure ()) >>= fun _ => again (.compLoop (.ListComp elt [g₁, ⟨target, iter, ifs, 0⟩] scope pos) 1 it acc env)
        else again (.compLoop (.ListComp elt [g₁, ⟨target, iter, ifs, 0⟩] scope pos) 1 it acc env)) := by rfl

section
variable {prog : Program} {w : World} {A : Around} {n₁ : Nat}
theorem comp1_go {elt target iter : Expr} {g₁ : Comprehension} {ifs : List Expr} {scope : Scope} {pos : Pos} {it acc : Value} {env : Env} {R : Result → Shared → Prop} {s : Shared} (I : Nat → Shared → Prop)
    (turn : ∀ n s, I n s → wpAny (model prog w) A (pyNext it) (fun r s₁ => match r with
      | none => R (.ok .next) s₁
      | some v => wpAny (model prog w) A (letOwnedTupleGo target it v) (fun _ s₁ => wpAny (model prog w) A (assign target env v) (fun _ s₂ =>
          wpAny (model prog w) A (forIn ifs true fun c r => if r = true then do let ok ← isTrue c env (eval c env); pure (ForInStep.yield ok) else pure (ForInStep.yield r)) (fun ok s₃ =>
            if ok = true then wpAny (model prog w) A (eval elt env) (fun x s₄ =>
              wpAny (model prog w) A (call (.builtin "list.append") [acc, x]) (fun _ s₅ => ∃ m, m < n ∧ I m s₅) (notedBy (model prog w) A env fun e s' => R (.error e) s') s₄) (notedBy (model prog w) A env fun e s' => R (.error e) s') s₃
            else ∃ m, m < n ∧ I m s₃) (notedBy (model prog w) A env fun e s' => R (.error e) s') s₂) (notedBy (model prog w) A env fun e s' => R (.error e) s') s₁) (notedBy (model prog w) A env fun e s' => R (.error e) s') s₁) (notedBy (model prog w) A env fun e s' => R (.error e) s') s)
    (n : Nat) (h : I n s) :
    codeAny (model prog w) A (.compLoop (.ListComp elt [g₁, ⟨target, iter, ifs, 0⟩] scope pos) 1 it acc env) R s := by
  refine codeAny_loop rfl I (fun n s hI => ?_) n h
  show wpAny _ A ((compTurn (.ListComp elt [g₁, ⟨target, iter, ifs, 0⟩] scope pos) 1 it acc env).onRaise (fun x => do noteFrame x env; theTreesLotGoes x)) _ _ s
  refine wpAny_noted ?_
  rw [compTurn_d1]
  refine wpAny_bind (wpAny_standAt (wpAny_bind (wpAny_mono (turn n s hI) (fun r s₁ h₁ => ?_) fun _ _ h' => h')))
  cases r with
  | none => exact wpAny_pure h₁
  | some v =>
    refine wpAny_bind (wpAny_mono h₁ (fun _ s₁ h₁ => ?_) fun _ _ h' => h')
    refine wpAny_bind (wpAny_mono h₁ (fun _ s₂ h₂ => wpAny_bind (wpAny_mono h₂ (fun ok s₃ h₃ => ?_) fun _ _ h' => h')) fun _ _ h' => h')
    cases ok with
    | false => exact wpAny_pure ⟨rfl, h₃⟩
    | true =>
      exact wpAny_bind (wpAny_bind (wpAny_mono h₃ (fun x s₄ h₄ => wpAny_bind (wpAny_mono h₄ (fun _ s₅ h₅ => wpAny_pure (wpAny_pure ⟨rfl, h₅⟩)) fun _ _ h' => h')) fun _ _ h' => h'))

/-- A comprehension's loop by an invariant over what it has made. -/
theorem comp1_loop {elt target iter : Expr} {g₁ : Comprehension} {ys₀ : List Value} {e₀ : Nat} {ifs : List Expr} {scope : Scope} {pos : Pos} {I D C : Nat} {own : List (Str × Addr)} {cenv : Env} {fp : List Nat} {n : Nat} {P : Nat → Value → Prop} {St : Nat → Heap → Prop} {R : Result → Shared → Prop} {s : Shared}
    (W : Walks prog w A I fp [I] n P St) (hfp : ∀ i h b o, St i h → b ∈ fp → h.get? b = some o → ¬ Tabled o)
    (hfo : ∀ b ∈ fp, offOwn C own b) (hD : offOwn C own D) (hID : I ≠ D) (hDf : D ∉ fp)
    (Inv : Nat → List Value → Shared → Prop)
    (stable : ∀ i ys s s', Inv i ys s → KpOn n₁ (fun b => @Ne Nat b I ∧ @Ne Nat b D) s.heap s'.heap → s'.gens = s.gens → s'.os = s.os → Inv i ys s')
    (turn : ∀ i v ys s, i < n → P i v → St (i + 1) s.heap → Inv i ys s → OwnAt C own s.heap → ∀ E' : Value → Shared → Prop,
      wpAny (model prog w) A (assign target cenv v) (fun _ s₂ =>
        wpAny (model prog w) A (forIn ifs true fun c r => if r = true then do let ok ← isTrue c cenv (eval c cenv); pure (ForInStep.yield ok) else pure (ForInStep.yield r)) (fun ok s₃ =>
          if ok = true then wpAny (model prog w) A (eval elt cenv) (fun y s₄ => KpOn n₁ (offOwn C own) s.heap s₄.heap ∧ OwnAt C own s₄.heap ∧ Inv (i + 1) (ys ++ [y]) s₄) E' s₃
          else KpOn n₁ (offOwn C own) s.heap s₃.heap ∧ OwnAt C own s₃.heap ∧ Inv (i + 1) ys s₃) E' s₂) E' s)
    (hst : St 0 s.heap) (hacc : s.heap.get? D = some { cls := .type "list", data := .seq ys₀.toArray e₀ }) (hown : OwnAt C own s.heap) (h0 : Inv 0 ys₀ s) (hsz : n + ys₀.length ≤ sizeLine)
    (hC : C ≠ I ∧ C ≠ D) (hoo : ∀ p ∈ own, @Ne Nat p.2 I ∧ @Ne Nat p.2 D)
    (hR : ∀ ys s' e', Inv n ys s' → OwnAt C own s'.heap → s'.heap.get? D = some { cls := .type "list", data := .seq ys.toArray e' } → ys.length ≤ n + ys₀.length → R (.ok .next) s')
    (ht : GoesOn prog w A target I St) :
    codeAny (model prog w) A (.compLoop (.ListComp elt [g₁, ⟨target, iter, ifs, 0⟩] scope pos) 1 (.ref I) (.ref D) cenv) R s := by
  refine comp1_go
    (fun k s' => ∃ i ys e, i ≤ n ∧ k = n + 1 - i ∧ ys.length ≤ i + ys₀.length ∧ St i s'.heap ∧ s'.heap.get? D = some { cls := .type "list", data := .seq ys.toArray e } ∧ OwnAt C own s'.heap ∧ Inv i ys s') ?_ (n + 1)
    ⟨0, ys₀, e₀, Nat.zero_le _, rfl, by omega, hst, hacc, hown, h0⟩
  rintro k s' ⟨i, ys, e, hi, rfl, hyl, hst', hacc', hown', hinv⟩
  have ownKeep : ∀ {h h' : Heap}, (∀ b o, b ∉ [I] → h.get? b = some o → h'.get? b = some o) → OwnAt C own h → OwnAt C own h' := fun {h h'} hk ho => by
    obtain ⟨⟨m, hn, o, e1, e2⟩, hc⟩ := ho
    refine ⟨⟨m, hn.at' fun o e => hk _ _ (by simpa using hC.1) e, o, hk _ _ (by simpa using hC.1) e1, e2⟩, fun p hp => ?_⟩
    obtain ⟨v, o, a, b, d⟩ := hc p hp
    exact ⟨v, o, hk _ _ (by simpa using (hoo p hp).1) a, b, d⟩
  by_cases hlt : i < n
  · refine W.item i _ _ _ hlt hst' fun v h₁ tk₁ hPv hst₁ hk₁ => ?_
    have inv₁ : Inv i ys { s' with heap := h₁, toks := tk₁ } := stable _ _ _ _ hinv (KpOn.of_keep fun b o hb e => hk₁ b o (by simpa using hb.1) e) rfl rfl
    refine ht (i + 1) v _ _ _ hst₁ ?_
    refine wpAny_mono (turn i v ys _ hlt hPv hst₁ inv₁ (ownKeep hk₁ hown') _) (fun _ s₂ h₂ => ?_) fun _ _ x => x
    refine wpAny_mono h₂ (fun ok s₃ h₃ => ?_) fun _ _ x => x
    have accD : h₁.get? D = some { cls := .type "list", data := .seq ys.toArray e } := hk₁ D _ (by simpa using Ne.symm hID) hacc'
    cases ok with
    | true =>
      simp only [if_true] at h₃ ⊢
      refine wpAny_mono h₃ (fun y s₄ h₄ => ?_) fun _ _ x => x
      obtain ⟨k4, o4, i4⟩ := h₄
      have st4 : St (i + 1) s₄.heap := W.frame _ _ _ hst₁ fun b hb o eb => k4.get (hfo b hb) eb (hfp _ _ b o hst₁ hb eb)
      have a4 : s₄.heap.get? D = some { cls := .type "list", data := .seq ys.toArray e } := k4.get hD accD (by rintro ⟨_, _, q⟩; cases q)
      refine append_at (hsz := by rw [List.size_toArray]; omega) a4 fun h₅ hs₅ hD₅ => ?_
      refine ⟨n + 1 - (i + 1), by omega, i + 1, ys ++ [y], e + 1, hlt, rfl, by rw [List.length_append, List.length_singleton]; omega, ?_, ?_, ?_, ?_⟩
      · exact W.frame _ _ _ st4 fun b hb o eb => hs₅.extBut b o (fun q => hDf (q ▸ hb)) eb
      · rw [hD₅, List.push_toArray]
      · obtain ⟨⟨m, hn, o, e1, e2⟩, hc⟩ := o4
        refine ⟨⟨m, hn.sameBut hs₅ hC.2, o, hs₅.extBut _ _ hC.2 e1, e2⟩, fun p hp => ?_⟩
        obtain ⟨v, o, a, b, d⟩ := hc p hp
        exact ⟨v, o, hs₅.extBut _ _ (hoo p hp).2 a, b, d⟩
      · exact stable _ _ _ _ i4 (KpOn.of_same hs₅ fun b hb => hb.2) rfl rfl
    | false =>
      simp only [Bool.false_eq_true, if_false] at h₃ ⊢
      obtain ⟨k4, o4, i4⟩ := h₃
      refine ⟨n + 1 - (i + 1), by omega, i + 1, ys, e, hlt, rfl, by omega, ?_, k4.get hD accD (by rintro ⟨_, _, q⟩; cases q), o4, i4⟩
      exact W.frame _ _ _ hst₁ fun b hb o eb => k4.get (hfo b hb) eb (hfp _ _ b o hst₁ hb eb)
  · obtain rfl : i = n := Nat.le_antisymm hi (Nat.not_lt.mp hlt)
    refine W.done _ _ _ hst' fun h₂ tk₂ hk₂ => ?_
    have inv₁ : Inv i ys { s' with heap := h₂, toks := tk₂ } := stable _ _ _ _ hinv (KpOn.of_keep fun b o hb e => hk₂ b o (by simpa using hb.1) e) rfl rfl
    exact hR ys _ e inv₁ (ownKeep hk₂ hown') (hk₂ D _ (by simpa using Ne.symm hID) hacc') hyl
end
end Mine
end

section
open PySem PySem.W PyProof.Rows PySem.SeqAt PySem.Calls
set_option Elab.async false
set_option maxRecDepth 100000
namespace Mine

theorem compTurn_d0 (elt t₁ iter₁ t₂ iter₂ : Expr) (scope : Scope) (pos : Pos) (it acc : Value) (env : Env) :
    compTurn (.ListComp elt [⟨t₁, iter₁, [], 0⟩, ⟨t₂, iter₂, [], 0⟩] scope pos) 0 it acc env = (standAt iter₁.pos >>= fun _ => pyNext it >>= fun r => match r with
      | none => pure (.done .next)
      | some v => letOwnedTupleGo t₁ it v >>= fun _ => assign t₁ env v >>= fun _ =>
        eval iter₂ env >>= fun x => standAt iter₂.pos >>= fun _ => foldedSetIterable iter₂ env x >>= fun x => holding [x] (pyIter x) >>= fun it' =>
          runOwn (.compStart (.ListComp elt [⟨t₁, iter₁, [], 0⟩, ⟨t₂, iter₂, [], 0⟩] scope pos) 1 it' acc env) env >>= fun _ => again (.compLoop (.ListComp elt [⟨t₁, iter₁, [], 0⟩, ⟨t₂, iter₂, [], 0⟩] scope pos) 0 it acc env)) := by rfl

section
variable {prog : Program} {w : World} {A : Around} {n₁ : Nat}

theorem codeAny_compStart1 {elt t₁ iter₁ t₂ iter₂ : Expr} {scope : Scope} {pos : Pos} {it acc : Value} {env : Env} {R : Result → Shared → Prop} {s : Shared}
    (h0 : codeAny (model prog w) A (.compLoop (.ListComp elt [⟨t₁, iter₁, [], 0⟩, ⟨t₂, iter₂, [], 0⟩] scope pos) 1 it acc env) R s)
    (h : wpAny (model prog w) A (pyIter it) (fun it' s' => codeAny (model prog w) A (.compLoop (.ListComp elt [⟨t₁, iter₁, [], 0⟩, ⟨t₂, iter₂, [], 0⟩] scope pos) 1 it' acc env) R s')
      (notedBy (model prog w) A env fun x s' => R (.error x) s') s) :
    codeAny (model prog w) A (.compStart (.ListComp elt [⟨t₁, iter₁, [], 0⟩, ⟨t₂, iter₂, [], 0⟩] scope pos) 1 it acc env) R s := by
  refine codeAny_of_tree ?_
  show wpAny _ _ ((compStart (.ListComp elt [⟨t₁, iter₁, [], 0⟩, ⟨t₂, iter₂, [], 0⟩] scope pos) 1 it acc env).onRaise (fun x => do noteFrame x env; standAt theWindowsPlace)) _ _ s
  refine wpAny_notedAt ?_
  unfold compStart
  show wpAny _ _ (ask >>= _) _ _ s
  refine wpAny_bind (wpAny_askSetting (wpAny_ite ?_))
  split
  · first
      | exact wpAny_bind (wpAny_pure (wpAny_pure (And.intro rfl h0)))
      | exact wpAny_pure (And.intro rfl h0)
  · first
      | exact wpAny_bind (wpAny_rule (wpAny_bind (wpAny_standAt (wpAny_bind (wpAny_mono h (fun it' s' h' => wpAny_pure (And.intro rfl h')) fun _ _ x => x)))))
      | (refine wpAny_bind (wpAny_rule ?_); show wpAny _ _ (standAt iter₂.pos >>= _) _ _ s; exact wpAny_bind (wpAny_standAt (wpAny_bind (wpAny_mono h (fun it' s' h' => wpAny_pure (And.intro rfl h')) fun _ _ x => x))))

theorem comp2_go {elt t₁ iter₁ t₂ iter₂ : Expr} {scope : Scope} {pos : Pos} {it acc : Value} {env : Env} {R : Result → Shared → Prop} {s : Shared} (I : Nat → Shared → Prop)
    (turn : ∀ n s, I n s → ∀ E' : Value → Shared → Prop, wpAny (model prog w) A (pyNext it) (fun r s₁ => match r with
      | none => R (.ok .next) s₁
      | some v => wpAny (model prog w) A (letOwnedTupleGo t₁ it v) (fun _ s₁ => wpAny (model prog w) A (assign t₁ env v) (fun _ s₂ =>
          wpAny (model prog w) A (eval iter₂ env) (fun x s₃ => wpAny (model prog w) A (pyIter x) (fun it' s₄ =>
            codeAny (model prog w) A (.compStart (.ListComp elt [⟨t₁, iter₁, [], 0⟩, ⟨t₂, iter₂, [], 0⟩] scope pos) 1 it' acc env) (fun r s₅ => match r with | .ok _ => ∃ m, m < n ∧ I m s₅ | .error _ => False) s₄) E' s₃) E' s₂) E' s₁) E' s₁) E' s)
    (n : Nat) (h : I n s) (hs : ∀ x, foldedSetIterable iter₂ env x = pure x := by intro _; rfl) :
    codeAny (model prog w) A (.compLoop (.ListComp elt [⟨t₁, iter₁, [], 0⟩, ⟨t₂, iter₂, [], 0⟩] scope pos) 0 it acc env) R s := by
  refine codeAny_loop rfl I (fun n s hI => ?_) n h
  show wpAny _ A ((compTurn (.ListComp elt [⟨t₁, iter₁, [], 0⟩, ⟨t₂, iter₂, [], 0⟩] scope pos) 0 it acc env).onRaise (fun x => do noteFrame x env; theTreesLotGoes x)) _ _ s
  refine wpAny_noted ?_
  rw [compTurn_d0]
  refine wpAny_bind (wpAny_standAt (wpAny_bind (wpAny_mono (turn n s hI _) (fun r s₁ h₁ => ?_) fun _ _ h' => h')))
  cases r with
  | none => exact wpAny_pure h₁
  | some v =>
    refine wpAny_bind (wpAny_mono h₁ (fun _ s₁ h₁ => wpAny_bind (wpAny_mono h₁ (fun _ s₂ h₂ => wpAny_bind (wpAny_mono h₂ (fun x s₃ h₃ => ?_) fun _ _ h' => h')) fun _ _ h' => h')) fun _ _ h' => h')
    refine wpAny_bind (wpAny_standAt (wpAny_bind (wpAny_of_eq (hs x) (wpAny_bind (wpAny_holding (wpAny_mono h₃ (fun it' s₄ h₄ => ?_) fun _ _ h' => h'))))))
    refine wpAny_bind (wpAny_runOwn (codeAny_mono h₄ fun r s₅ h₅ => ?_))
    cases r with
    | ok f => exact wpAny_pure ⟨rfl, h₅⟩
    | error e => exact h₅.elim
end
end Mine
end

section
open PySem PySem.W PyProof.Rows PySem.SeqAt PySem.Calls
set_option Elab.async false
set_option maxRecDepth 100000
namespace Mine

section
variable {prog : Program} {w : World} {A : Around} {E : Value → Shared → Prop} {s : Shared}

/-- the law is entered -/
theorem law_enter {o : Obj} {pm cd v : Value} {Q : Value → Shared → Prop} (hroom : A.depth < recursionLimit) (ho : s.heap.get? 84 = some o) (hd : o.data = .func (Calls.docDef (fN 12) (fA 12) (fB 12) (fS 12) pm cd .none))
    (hcd : s.heap.CodeRec cd (fN 12)) (G : Gl s.heap) (S : Stg prog w s.heap) (hb : AllBare s.gens) (h85 : 85 ≤ s.heap.objs.size)
    (h : ∀ s', LS prog w s (fun _ => none) (fun y => if y = Str.ofString "script" then some v else none) s' → (∀ b o, s.heap.get? b = some o → s'.heap.get? b = some o) →
      wpC (model prog w) (A.deeper (lEnv s.heap.objs.size pm cd)) (execs (fB 12) (lEnv s.heap.objs.size pm cd)) (fun f s'' => Q (match f with | .ret v => v | _ => .none) s'') (fun _ _ => False) s') :
    wpC (model prog w) A (call (.ref 84) [v]) Q E s := by
  refine wpC_call (codeC_call_function hroom ho hd rfl rfl rfl hcd (wpAny_of_eq (a := [(Str.ofString "script", v)]) rfl ?_))
  refine wpAny_newFunctionEnv_cells rfl (by intro y hy; simp at hy; subst hy; exact .inr ⟨rfl, rfl⟩) fun env he s' x => ?_
  subst he
  have k := x.toInCall.keep
  refine ⟨G.lim.keeps k, codeC_func (h s' ?_ k)⟩
  obtain ⟨h', tk, e, _⟩ := x.done
  have hc : ∀ n c, (lCells s.heap.objs.size).lookup n = some c → s'.heap.IsCell c (if n = Str.ofString "script" then some v else none) := fun n c hc => by
    have q := x.cell n c hc
    have e2 : bindC (callEnvC (Calls.docDef (fN 12) (fA 12) (fB 12) (fS 12) pm cd .none) s.heap.objs.size 84).kindOf [(Str.ofString "script", v)] (fun _ => none) n = if n = Str.ofString "script" then some v else none := rfl
    exact e2 ▸ q
  refine ⟨⟨x.toInCall.ns, hc, G.keeps k, S.get fun o e => k _ o e, OldK.of_keep k, by rw [e], by rw [e]; exact hb, ?_, h85⟩, fun _ b o e => k b o e⟩
  obtain ⟨o5, e5, _⟩ := hc (Str.ofString "laid") _ rfl
  exact Heap.lt_size e5
end
end Mine
end

section
open PySem PySem.W PyProof.Rows PySem.SeqAt PySem.Calls
set_option Elab.async false
set_option maxRecDepth 100000
namespace Mine

section
variable {prog : Program} {w : World} {A : Around} {E : Value → Shared → Prop} {s : Shared}

theorem holds2_get {vs : List Value} {ts : List TV} (h : Holds2 vs ts) {i : Nat} {v : Value} {t : TV} (hv : vs[i]? = some v) (ht : ts[i]? = some t) : tvOf v = some t := by
  have := congrArg (fun l : List (Option TV) => l[i]?) h
  simpa [hv, ht] using this

/-- like lists: like contents -/
theorem list_eqT {l b : Addr} {vs us : Array Value} {as bs : List TV} {Q : Value → Shared → Prop}
    (hl : s.heap.IsList l vs) (hb : s.heap.IsList b us) (ha : Holds2 vs.toList as) (hbs : Holds2 us.toList bs) (hu : A.units < cLine) (h : Q (.bool (decide (as = bs))) s) :
    wpAny (model prog w) A (compareOp .Eq (.ref l) (.ref b)) Q E s := by
  have la := ha.length
  have lb := hbs.length
  by_cases hsz : vs.size = us.size
  · have key := RcAt.lists (e := fun j => decide (as[j]? = bs[j]?)) hl hb hsz hu fun j h1 h2 => by
      have ja : j < as.length := by rw [← la]; simpa using h1
      have jb : j < bs.length := by rw [← lb]; simpa using h2
      have e1 := holds2_get ha (i := j) (v := vs[j]) (t := as[j]) (by simp [h1]) (by simp [ja])
      have e2 := holds2_get hbs (i := j) (v := us[j]) (t := bs[j]) (by simp [h2]) (by simp [jb])
      have := tv_eqAt (A := A.in1) (s := s) e1 e2
      have e3 : decide (as[j]? = bs[j]?) = decide (as[j] = bs[j]) := by simp [ja, jb]
      rw [e3]; exact this
    refine EqBoolInt.of_rc key ?_
    have e : ((List.range vs.size).all fun j => decide (as[j]? = bs[j]?)) = decide (as = bs) := by
      have lsz : vs.size = as.length := by rw [← la]; simp
      have lsz2 : us.size = bs.length := by rw [← lb]; simp
      apply Bool.eq_iff_iff.mpr
      simp only [List.all_eq_true, List.mem_range, decide_eq_true_eq]
      constructor
      · intro q
        apply List.ext_getElem?
        intro j
        by_cases hj : j < vs.size
        · exact q j hj
        · rw [List.getElem?_eq_none (by omega), List.getElem?_eq_none (by omega)]
      · rintro rfl j _; rfl
    rw [e]; exact h
  · refine EqBoolInt.of_rc (RcAt.lists_lengths hl hb (by simpa using hsz) hu) ?_
    have : ¬ as = bs := fun q => hsz (by
      have a1 : vs.size = as.length := by rw [← la]; simp
      have a2 : us.size = bs.length := by rw [← lb]; simp
      rw [a1, a2, q])
    rw [decide_eq_false this] at h
    exact h
end
end Mine
end

section
open PySem PySem.W PyProof.Rows PySem.SeqAt PySem.Calls
set_option Elab.async false
set_option maxRecDepth 100000
namespace Mine

/-- a list of pairs of truths -/
def Pr (h : Heap) (p q : Bool) (v : Value) : Prop := ∃ b, v = .ref b ∧ h.IsList b #[.bool p, .bool q]
/-- the pairs so far: of one, with each two -/
def PLs (h : Heap) (lt eq : Nat → Nat → Bool) (ys : List Value) : Prop := ∀ k v, ys[k]? = some v → Pr h (lt (k / 8) (k % 8)) (eq (k / 8) (k % 8)) v

section
variable {prog : Program} {w : World} {A : Around} {E : Value → Shared → Prop} {s : Shared} {env : Env}

/-- [one < two, one == two] -/
theorem pair_elt {L1 L2 : Addr} {us vs : Array Value} {as bs : List TV} {r : Bool} {m : Str → Option Value} {p1 p2 p3 p4 p5 p6 p7 : Pos} {Q : Value → Shared → Prop} (hn : s.heap.Ns env.locals m)
    (h1 : m (Str.ofString "one") = some (.ref L1)) (h2 : m (Str.ofString "two") = some (.ref L2)) (hl1 : s.heap.IsList L1 us) (hl2 : s.heap.IsList L2 vs) (ha : Holds2 us.toList as) (hb : Holds2 vs.toList bs)
    (hr : lexC false as bs = some r) (hu : A.units < cLine) (hk : env.scope.kind = .function) (k1 : env.kindOf (Str.ofString "one") = some .local) (k2 : env.kindOf (Str.ofString "two") = some .local)
    (h : Q (.ref s.heap.objs.size) { s with heap := s.heap.push { cls := .type "list", data := .seq #[.bool r, .bool (decide (as = bs))] } }) :
    wpAny (model prog w) A (eval (.List [.Compare (.Name (Str.ofString "one") p1) [.Lt] [.Name (Str.ofString "two") p2] p3, .Compare (.Name (Str.ofString "one") p4) [.Eq] [.Name (Str.ofString "two") p5] p6] p7) env) Q E s := by
  refine wpAny_List (wpAny_items_cons (wpAny_Compare1 (nmL hn h1 (nmL hn h2 (list_ord (le := false) hl1 hl2 ha hb hr hu ?_) hk k2) hk k1)))
  exact wpAny_items_cons (wpAny_Compare1 (nmL hn h1 (nmL hn h2 (list_eqT hl1 hl2 ha hb hu (wpAny_items_nil ⟨by size_fits, h⟩)) hk k2) hk k1))
end
end Mine
end

section
open PySem PySem.W PyProof.Rows PySem.SeqAt PySem.Calls
set_option Elab.async false
set_option maxRecDepth 100000
namespace Mine

/-- all is kept; the run's rest as it was -/
structure Kg (s s' : Shared) : Prop where
  keep : ∀ b o, s.heap.get? b = some o → s'.heap.get? b = some o
  os : s'.os = s.os
  bare : AllBare s.gens → AllBare s'.gens
theorem Kg.refl {s : Shared} : Kg s s := ⟨fun _ _ e => e, rfl, fun q => q⟩
theorem Kg.trans {a b c : Shared} (x : Kg a b) (y : Kg b c) : Kg a c := ⟨fun d o e => y.keep d o (x.keep d o e), y.os.trans x.os, fun q => y.bare (x.bare q)⟩
theorem Kg.of_keeps {s s' : Shared} (x : Keeps s s') : Kg s s' := by
  obtain ⟨h', tk, rfl, k⟩ := x
  exact ⟨k, rfl, fun q => q⟩
theorem Kg.push {s : Shared} {o : Obj} {tk : Nat} : Kg s { s with heap := s.heap.push o, toks := tk } := ⟨fun _ _ e => Heap.get?_push_of_some _ e, rfl, fun q => q⟩

/-- the lists at the places that P names are kept -/
def LK (P : Nat → Prop) (h h' : Heap) : Prop := ∀ b vs, P b → h.IsList b vs → h'.IsList b vs
abbrev Lk (h h' : Heap) : Prop := LK (fun _ => True) h h'
theorem LK.mono {P P' : Nat → Prop} {h h' : Heap} (x : LK P h h') (q : ∀ b, P' b → P b) : LK P' h h' := fun b vs p l => x b vs (q b p) l
theorem Lk.trans {a b c : Heap} (x : Lk a b) (y : Lk b c) : Lk a c := fun d vs _ l => y d vs trivial (x d vs trivial l)
theorem KpOn.lk {n₁ : Nat} {P : Nat → Prop} {h h' : Heap} (x : KpOn n₁ P h h') : LK P h h' := fun _ _ p l => x.isList p l
theorem Kg.lk {s s' : Shared} (x : Kg s s') : Lk s.heap s'.heap := fun b vs _ l => let ⟨o, e, r⟩ := l; ⟨o, x.keep b o e, r⟩
theorem lk_same {h h' : Heap} {c : Addr} (hc : NoSeq h c) (sb : Heap.SameBut c h h') : Lk h h' := fun _ _ _ l => list_same hc sb l
theorem Lk.tls {h h' : Heap} {a : Addr} {f : Nat → List TV} {n : Nat} (k : Lk h h') (x : TLs h a f n) : TLs h' a f n := by
  obtain ⟨vs, hl, hn, hi⟩ := x
  refine ⟨vs, k _ _ trivial hl, hn, fun i hin => ?_⟩
  obtain ⟨b, us, e, hb, hu⟩ := hi i hin
  exact ⟨b, us, e, k _ _ trivial hb, hu⟩
theorem Kg.ns {s s' : Shared} (x : Kg s s') {a : Addr} {m : Str → Option Value} (n : s.heap.Ns a m) : s'.heap.Ns a m := n.keeps x.keep
theorem Kg.cell {s s' : Shared} (x : Kg s s') {a : Addr} {v : Option Value} (n : s.heap.IsCell a v) : s'.heap.IsCell a v := n.keeps x.keep
theorem Kg.list {s s' : Shared} (x : Kg s s') {a : Addr} {v : Array Value} (n : s.heap.IsList a v) : s'.heap.IsList a v := x.lk a v trivial n
theorem Kg.gl {s s' : Shared} (x : Kg s s') (n : Gl s.heap) : Gl s'.heap := n.keeps x.keep
theorem LS.kg {prog : Program} {w : World} {s₁ s s' : Shared} {m cm : Str → Option Value} (x : LS prog w s₁ m cm s) (k : Kg s s') : LS prog w s₁ m cm s' :=
  x.rn (I := s.heap.objs.size) x.size ⟨KpOn.of_keep fun b o _ e => k.keep b o e, k.os, k.bare⟩

section
variable {prog : Program} {w : World} {A : Around} {E : Value → Shared → Prop} {s : Shared} {env : Env}

theorem ifs0 {cenv : Env} {Q : Bool → Shared → Prop} (h : Q true s) :
    wpAny (model prog w) A (forIn ([] : List Expr) true fun c r => if r = true then do let ok ← isTrue c cenv (eval c cenv); pure (ForInStep.yield ok) else pure (ForInStep.yield r)) Q E s := wpAny_pure h
theorem ifs1 {cenv : Env} {c : Expr} {Q : Bool → Shared → Prop} (h : wpAny (model prog w) A (isTrue c cenv (eval c cenv)) Q E s) :
    wpAny (model prog w) A (forIn [c] true fun c r => if r = true then do let ok ← isTrue c cenv (eval c cenv); pure (ForInStep.yield ok) else pure (ForInStep.yield r)) Q E s := by
  rw [List.forIn_cons]
  refine wpAny_bind ?_
  rw [if_pos rfl]
  refine wpAny_bind (wpAny_mono h (fun ok s' h' => wpAny_pure ?_) fun _ _ q => q)
  exact wpAny_pure h'

/-- two names of a comprehension are set out of a list -/
theorem assign2L {cenv : Env} {x y : Str} {px py tp : Pos} {kt : Nat} {T : Addr} {va vb : Value} {m : Str → Option Value} {Q : Unit → Shared → Prop} (hh : A.handled = none) (hT : s.heap.IsList T #[va, vb])
    (hkx : cenv.kindOf x = some .local) (hky : cenv.kindOf y = some .local) (hp : (cenv.scope.kind == .class || (cenv.scope.kind == .module && cenv.locals != cenv.globals)) = false) (hn : s.heap.Ns cenv.locals m)
    (h : ∀ h' tk, h'.Ns cenv.locals (fun z => if z = y then some vb else if z = x then some va else m z) → (∀ b o, b ≠ cenv.locals → s.heap.get? b = some o → h'.get? b = some o) → Q () { s with heap := h', toks := tk }) :
    wpAny (model prog w) A (assign (.Tuple [.Name x px, .Name y py] kt tp) cenv (.ref T)) Q E s := by
  rw [arm_assign_Tuple]
  refine wpAny_bind (wpAny_standAt ?_)
  unfold unpack
  refine wpAny_bind (wpAny_holding (kun_itemsOf (items := #[va, vb]) hh hT fun h₁ x₁ => ?_))
  replace x₁ : Heap.ExtBut s.heap.objs.size s.heap h₁ := x₁
  have old₁ : ∀ b o, s.heap.get? b = some o → h₁.get? b = some o := fun b o e => x₁ b o (Nat.ne_of_lt (Heap.lt_size e)) e
  show wpAny _ _ (do holding [_] (assign (.Name x _) _ _); do holding [] (assign (.Name y _) _ _); pure ()) _ _ _
  refine wpAny_bind (wpAny_holding (wpAny_assign_Name (wpAny_storeName_local hkx (hn.keeps old₁) (fun h₂ n₂ s₂ => ?_) hp)))
  refine wpAny_bind (wpAny_holding (wpAny_assign_Name (wpAny_storeName_local hky n₂ (fun h₃ n₃ s₃ => wpAny_pure ?_) hp)))
  replace s₂ : Heap.SameBut cenv.locals h₁ h₂ := s₂
  replace s₃ : Heap.SameBut cenv.locals h₂ h₃ := s₃
  exact h h₃ _ n₃ fun b o hb e => s₃.extBut b o hb (s₂.extBut b o hb (old₁ b o e))

abbrev cE (scope : Scope) (cl : List (Str × Addr)) (I : Nat) (env : Env) : Env := compEnvC scope (cellsFrom (I + 3) scope.names cl) (I + 2) env
abbrev oC (scope : Scope) (I : Nat) : List (Str × Addr) := cellsFrom (I + 3) scope.names []

/-- how a target is set -/
def Sets (prog : Program) (w : World) (A : Around) (env : Env) (scope : Scope) (cl : List (Str × Addr)) (target : Expr) (S : Shared) (n : Nat) (P : Nat → Value → Prop) (N : Nat → Heap → Prop) : Prop :=
  ∀ i v s (Q : Unit → Shared → Prop) (E : Value → Shared → Prop), i < n → P i v → Rn S.heap.objs.size S.heap.objs.size S s → OwnAt (S.heap.objs.size + 2) (oC scope S.heap.objs.size) s.heap →
    (∀ h₂ tk, N i h₂ → OwnAt (S.heap.objs.size + 2) (oC scope S.heap.objs.size) h₂ → (∀ b o, offOwn (S.heap.objs.size + 2) (oC scope S.heap.objs.size) b → s.heap.get? b = some o → h₂.get? b = some o) → Q () { s with heap := h₂, toks := tk }) →
    wpAny (model prog w) A (assign target (cE scope cl S.heap.objs.size env) v) Q E s

theorem OwnAt.kg {C : Nat} {own : List (Str × Addr)} {s s' : Shared} (x : OwnAt C own s.heap) (k : Kg s s') : OwnAt C own s'.heap := by
  obtain ⟨⟨m, hn, o, e1, e2⟩, hc⟩ := x
  refine ⟨⟨m, hn.keeps k.keep, o, k.keep _ _ e1, e2⟩, fun p hp => ?_⟩
  obtain ⟨v, o, a, b, d⟩ := hc p hp
  exact ⟨v, o, k.keep _ _ a, b, d⟩
theorem OwnAt.lt {C : Nat} {own : List (Str × Addr)} {h : Heap} (x : OwnAt C own h) : C < h.objs.size := by
  obtain ⟨⟨m, hn, o, e1, e2⟩, hc⟩ := x
  exact Heap.lt_size e1

/-- a turn, whatever its target -/
theorem turnT {scope : Scope} {cl : List (Str × Addr)} {elt target : Expr} {ifs : List Expr} {S : Shared} {n : Nat} {P : Nat → Value → Prop} {keep : Nat → Bool} {Y : Nat → Value → Heap → Prop} {N : Nat → Heap → Prop}
    (asg : Sets prog w A env scope cl target S n P N)
    (body : ∀ i s', i < n → Kg S s' → N i s'.heap → OwnAt (S.heap.objs.size + 2) (oC scope S.heap.objs.size) s'.heap → ∀ E' : Value → Shared → Prop,
      wpAny (model prog w) A (forIn ifs true fun c r => if r = true then do let ok ← isTrue c (cE scope cl S.heap.objs.size env) (eval c (cE scope cl S.heap.objs.size env)); pure (ForInStep.yield ok) else pure (ForInStep.yield r)) (fun ok s₃ => Kg s' s₃ ∧ ok = keep i ∧
        (ok = true → wpAny (model prog w) A (eval elt (cE scope cl S.heap.objs.size env)) (fun y s₄ => Kg s' s₄ ∧ Y i y s₄.heap) E' s₃)) E' s') :
    MTurnA prog w A S.heap.objs.size env scope cl elt target ifs S n P keep Y := by
  intro i v s hi hP r hown E'
  have cr := cellsFrom_range scope.names (S.heap.objs.size + 3)
  refine asg i v s _ _ hi hP r hown fun h₂ tk hN own₂ k₂ => ?_
  have off : ∀ b : Nat, b < S.heap.objs.size → offOwn (S.heap.objs.size + 2) (oC scope S.heap.objs.size) b := fun b hb => ⟨by omega, fun p hp => by have := cr p hp; omega⟩
  have kg : Kg S { s with heap := h₂, toks := tk } := ⟨fun b o e => k₂ b o (off b (Heap.lt_size e)) (r.kp.low (Heap.lt_size e) e (Heap.lt_size e)), r.os, r.bare⟩
  have kp : KpOn S.heap.objs.size (offOwn (S.heap.objs.size + 2) (oC scope S.heap.objs.size)) s.heap h₂ := KpOn.of_keep fun b o hb e => k₂ b o hb e
  have fin : ∀ s₄ : Shared, Kg { s with heap := h₂, toks := tk } s₄ → Stp S.heap.objs.size (S.heap.objs.size + 2) (oC scope S.heap.objs.size) s s₄ := fun s₄ k₄ =>
    ⟨kp.trans (KpOn.of_keep fun b o _ e => k₄.keep b o e), own₂.kg k₄, k₄.os, k₄.bare⟩
  refine wpAny_mono (body i _ hi kg hN own₂ E') (fun ok s₃ h₃ => ?_) fun _ _ q => q
  obtain ⟨k₃, hk, hel⟩ := h₃
  refine ⟨hk, ?_⟩
  split
  · rename_i ht
    exact wpAny_mono (hel ht) (fun y s₄ h₄ => ⟨fin s₄ h₄.1, h₄.2⟩) fun _ _ q => q
  · exact fin s₃ k₃

/-- one plain name -/
theorem setsN {scope : Scope} {cl : List (Str × Addr)} {x : Str} {px : Pos} {S : Shared} {n : Nat} {P : Nat → Value → Prop} (hk : (cE scope cl S.heap.objs.size env).kindOf x = some .local) (hf : scope.kind = .function) :
    Sets prog w A env scope cl (.Name x px) S n P (fun i h => ∃ v m, P i v ∧ h.Ns (S.heap.objs.size + 2) m ∧ m x = some v) := by
  intro i v s Q E hi hP r hown h
  obtain ⟨⟨m, hn, _⟩, hoc⟩ := hown
  have cr := cellsFrom_range scope.names (S.heap.objs.size + 3)
  refine wpAny_assign_Name (wpAny_storeName_local hk hn (fun h₂ n₂ s₂ => ?_) (by show (scope.kind == .class || (scope.kind == .module && _)) = false; rw [hf]; rfl))
  replace s₂ : Heap.SameBut (S.heap.objs.size + 2) s.heap h₂ := s₂
  replace n₂ : h₂.Ns (S.heap.objs.size + 2) (fun y => if y = x then some v else m y) := n₂
  refine h h₂ _ ⟨v, _, hP, n₂, by simp⟩ ⟨⟨_, n₂, ?_⟩, fun p hp => ?_⟩ fun b o hb e => s₂.extBut b o hb.1 e
  · obtain ⟨o, _, _, e, _⟩ := n₂
    exact ⟨o, e, trivial⟩
  · obtain ⟨v, o, a, b, d⟩ := hoc p hp
    exact ⟨v, o, s₂.extBut _ o (by have := cr p hp; show @Ne Nat _ _; omega) a, b, d⟩

/-- two names, out of a list of two -/
theorem sets2 {scope : Scope} {cl : List (Str × Addr)} {x y : Str} {px py tp : Pos} {kt : Nat} {S : Shared} {n : Nat} {P : Nat → Value → Prop} {PP : Nat → Value → Value → Prop} (hh : A.handled = none)
    (hkx : (cE scope cl S.heap.objs.size env).kindOf x = some .local) (hky : (cE scope cl S.heap.objs.size env).kindOf y = some .local) (hxy : x ≠ y) (hf : scope.kind = .function)
    (hP : ∀ i v, P i v → ∃ T va vb, v = .ref T ∧ S.heap.IsList T #[va, vb] ∧ PP i va vb) :
    Sets prog w A env scope cl (.Tuple [.Name x px, .Name y py] kt tp) S n P (fun i h => ∃ va vb m, PP i va vb ∧ h.Ns (S.heap.objs.size + 2) m ∧ m x = some va ∧ m y = some vb) := by
  intro i v s Q E hi hPv r hown h
  obtain ⟨⟨m, hn, _⟩, hoc⟩ := hown
  obtain ⟨T, va, vb, rfl, hT, hpp⟩ := hP i v hPv
  have cr := cellsFrom_range scope.names (S.heap.objs.size + 3)
  have hT' : s.heap.IsList T #[va, vb] := r.kp.isList (by obtain ⟨o, e, _⟩ := hT; exact Heap.lt_size e) hT
  refine assign2L hh hT' hkx hky (by show (scope.kind == .class || (scope.kind == .module && _)) = false; rw [hf]; rfl) hn fun h₂ tk n₂ k₂ => ?_
  replace n₂ : h₂.Ns (S.heap.objs.size + 2) (fun z => if z = y then some vb else if z = x then some va else m z) := n₂
  replace k₂ : ∀ b o, @Ne Nat b (S.heap.objs.size + 2) → s.heap.get? b = some o → h₂.get? b = some o := k₂
  refine h h₂ _ ⟨va, vb, _, hpp, n₂, by simp [hxy], by simp⟩ ⟨⟨_, n₂, ?_⟩, fun p hp => ?_⟩ fun b o hb e => k₂ b o hb.1 e
  · obtain ⟨o, _, _, e, _⟩ := n₂
    exact ⟨o, e, trivial⟩
  · obtain ⟨v, o, a, b, d⟩ := hoc p hp
    exact ⟨v, o, k₂ _ o (by have := cr p hp; show @Ne Nat _ _; omega) a, b, d⟩

/-- one name that is a cell -/
theorem setsC {scope : Scope} {cl : List (Str × Addr)} {x : Str} {px : Pos} {S : Shared} {n : Nat} {P : Nat → Value → Prop} (hk : (cE scope cl S.heap.objs.size env).kindOf x = some .cell) (hf : scope.kind = .function)
    (hc : (cE scope cl S.heap.objs.size env).cells.lookup x = some (S.heap.objs.size + 3)) (ho : oC scope S.heap.objs.size = [(x, S.heap.objs.size + 3)]) :
    Sets prog w A env scope cl (.Name x px) S n P (fun i h => ∃ v, P i v ∧ h.IsCell (S.heap.objs.size + 3) (some v)) := by
  intro i v s Q E hi hP r hown h
  obtain ⟨⟨m, hn, o0, e0, _⟩, hoc⟩ := hown
  obtain ⟨v0, c0⟩ := hoc (x, S.heap.objs.size + 3) (by rw [ho]; exact List.mem_singleton.mpr rfl)
  refine wpAny_assign_Name (wpAny_storeName_cell hf hk hc c0.isCell (fun h' c' s' => ?_))
  replace s' : Heap.SameBut (S.heap.objs.size + 3) s.heap h' := s'
  have ne : @Ne Nat (S.heap.objs.size + 2) (S.heap.objs.size + 3) := by omega
  refine h h' _ ⟨v, hP, c'⟩ ⟨⟨m, hn.sameBut s' ne, o0, s'.extBut _ _ ne e0, trivial⟩, fun p hp => ?_⟩ fun b o hb e => s'.extBut b o (hb.2 (x, S.heap.objs.size + 3) (by rw [ho]; exact List.mem_singleton.mpr rfl)) e
  rw [ho] at hp
  rw [List.mem_singleton.mp hp]
  exact ⟨_, IsCl.of c'⟩
end
end Mine
end

section
open PySem PySem.W PyProof.Rows PySem.SeqAt PySem.Calls
set_option Elab.async false
set_option maxRecDepth 100000
namespace Mine

/-- what a comprehension leaves -/
structure Made (S s' : Shared) (keep : Nat → Bool) (Y : Nat → Value → Heap → Prop) (n : Nat) (D : Addr) (ys : List Value) : Prop where
  kg : Kg S s'
  fresh : @LE.le Nat _ S.heap.objs.size D
  list : s'.heap.IsList D ys.toArray
  all : All2 (fun i y => Y i y s'.heap) (idx keep n) ys
/-- what an element's fact may lean on: lists that stand -/
def OnLists (I nc : Nat) (Y : Nat → Value → Heap → Prop) : Prop := ∀ i y h h', Y i y h → LK (outC I nc) h h' → Y i y h'

section
variable {prog : Program} {w : World} {A : Around} {E : Value → Shared → Prop} {s : Shared} {env : Env}

theorem made_of {S s' : Shared} {keep : Nat → Bool} {Y : Nat → Value → Heap → Prop} {n nc : Nat} {ys : List Value} {h₂ : Heap} (hY : OnLists S.heap.objs.size nc Y) (r : Rn S.heap.objs.size S.heap.objs.size S s') (al : All2 (fun i y => Y i y s'.heap) (idx keep n) ys)
    (hD : s'.heap.IsList (S.heap.objs.size + 1) ys.toArray) (s₂ : Heap.SameBut (S.heap.objs.size + 2) s'.heap h₂) : Made S { s' with heap := h₂ } keep Y n (S.heap.objs.size + 1) ys where
  kg := ⟨fun b o e => s₂.extBut b o (by have l : @LT.lt Nat _ b _ := Heap.lt_size e; exact fun q => by have q' : @Eq Nat b _ := q; omega) (r.kp.low (Heap.lt_size e) e (Heap.lt_size e)), r.os, r.bare⟩
  fresh := Nat.le_succ _
  list := let ⟨o, e, rr⟩ := hD; ⟨o, s₂.extBut _ o (Nat.ne_of_lt (Nat.lt_succ_self _)) e, rr⟩
  all := al.mono fun i y q => hY i y _ _ q fun b vs hb l => (let ⟨o, e, rr⟩ := l; ⟨o, s₂.extBut _ o (fun q => by have q' : @Eq Nat b _ := q; unfold outC at hb; omega) e, rr⟩)

theorem core_list {elt target iter : Expr} {ifs : List Expr} {scope : Scope} {cl : List (Str × Addr)} {pos : Pos} {S : Shared} {l : Addr} {items : Array Value} {keep : Nat → Bool} {Y : Nat → Value → Heap → Prop} {use : Option (Value → Sem Unit)} {Q : Value → Shared → Prop}
    (hh : A.handled = none) (hl : S.heap.IsList l items) (hsz : items.size ≤ sizeLine) (hY : OnLists S.heap.objs.size (ncells scope.names) Y)
    (turn : MTurnA prog w A S.heap.objs.size env scope cl elt target ifs S items.size (fun i v => items[i]? = some v) keep Y)
    (fin : ∀ ys s', Rn S.heap.objs.size S.heap.objs.size S s' → All2 (fun i y => Y i y s'.heap) (idx keep items.size) ys → (∃ m, s'.heap.Ns (S.heap.objs.size + 2) m) → s'.heap.IsList (S.heap.objs.size + 1) ys.toArray →
      compPost (model prog w) A E use Q (.ref (S.heap.objs.size + 1)) (S.heap.objs.size + 2) (.ok .next) s') :
    wpAny (model prog w) A (pyIter (.ref l)) (fun it s₂ => wpAny (model prog w) A (newList []) (fun acc s₃ => wpAny (model prog w) A (newFunctionEnv scope env.globals cl [] env.qual none .none (some env)) (fun cenv s₄ =>
      codeAny (model prog w) A (.compStart (.ListComp elt [⟨target, iter, ifs, 0⟩] scope pos) 0 it acc { cenv with scope := relabel scope env }) (compPost (model prog w) A E use Q acc cenv.locals) s₄) E s₃) E s₂) E S := by
  obtain ⟨i1, i2, i3⟩ := mapA_inv (fun i y h h' q k => hY i y h h' q k.lk) turn
  refine wpAny_pyIter_list hl ?_
  have hlt : @LT.lt Nat _ l S.heap.objs.size := by obtain ⟨_, e, _⟩ := hl; exact Heap.lt_size e
  refine comp_block (n₁ := S.heap.objs.size) (Walks.list hh S.heap.objs.size l (Nat.ne_of_lt hlt) items) (fun i h b o st hb e => ?_) (fun b hb => ?_) (by show _ = (S.heap.push _).objs.size; rw [Heap.size_push]) hsz (MapInv S.heap.objs.size keep Y S) i1
    ⟨⟨_, Heap.get?_push_size _ rfl, rfl, rfl⟩, hl.push _⟩ (i1 _ _ _ _ i2 (KpOn.of_keep fun b o _ e => Heap.get?_push_of_some _ e) rfl rfl) i3 (fun ys s' hi hm hd => fin ys s' hi.1 hi.2 hm hd) goesOn_list
  · rcases List.mem_cons.mp hb with rfl | hb
    · exact isListIter_cls st.1 e
    · rw [List.mem_singleton.mp hb] at e; exact isList_cls st.2 e
  · rcases List.mem_cons.mp hb with rfl | hb
    · exact Nat.le_refl _
    · rw [List.mem_singleton.mp hb]; exact Nat.le_of_lt hlt

theorem core_range {elt iter : Expr} {x : Str} {px : Pos} {ifs : List Expr} {scope : Scope} {cl : List (Str × Addr)} {pos : Pos} {S : Shared} {r : Addr} {n : Nat} {t u v : Tok} {keep : Nat → Bool} {Y : Nat → Value → Heap → Prop} {use : Option (Value → Sem Unit)} {Q : Value → Shared → Prop}
    (hh : A.handled = none) (hr : IsRange S.heap r 0 n 1 t u v) (hsm : Builtin.Range.small 0 n 1 = true) (hn : Builtin.Range.rangeSize 0 n 1 = (n : Int)) (hsz : n ≤ sizeLine) (hY : OnLists S.heap.objs.size (ncells scope.names) Y)
    (turn : MTurnA prog w A S.heap.objs.size env scope cl elt (.Name x px) ifs S n (fun i v => ∃ t, v = .int (0 + (i : Int)) t) keep Y)
    (fin : ∀ ys s', Rn S.heap.objs.size S.heap.objs.size S s' → All2 (fun i y => Y i y s'.heap) (idx keep n) ys → (∃ m, s'.heap.Ns (S.heap.objs.size + 2) m) → s'.heap.IsList (S.heap.objs.size + 1) ys.toArray →
      compPost (model prog w) A E use Q (.ref (S.heap.objs.size + 1)) (S.heap.objs.size + 2) (.ok .next) s') :
    wpAny (model prog w) A (pyIter (.ref r)) (fun it s₂ => wpAny (model prog w) A (newList []) (fun acc s₃ => wpAny (model prog w) A (newFunctionEnv scope env.globals cl [] env.qual none .none (some env)) (fun cenv s₄ =>
      codeAny (model prog w) A (.compStart (.ListComp elt [⟨.Name x px, iter, ifs, 0⟩] scope pos) 0 it acc { cenv with scope := relabel scope env }) (compPost (model prog w) A E use Q acc cenv.locals) s₄) E s₃) E s₂) E S := by
  obtain ⟨i1, i2, i3⟩ := mapA_inv (fun i y h h' q k => hY i y h h' q k.lk) turn
  refine wpAny_pyIter_range hr hsm ?_
  refine comp_block (n₁ := S.heap.objs.size) (LCg.range_walks hh 0 n) (fun i h b o st hb e => ?_) (fun b hb => ?_) (by show _ = (S.heap.push _).objs.size; rw [Heap.size_push]) hsz (MapInv S.heap.objs.size keep Y S) i1
    (by show IsRangeIter _ _ _ _ _; rw [hn]; simpa using Heap.get?_push_size _ rfl) (i1 _ _ _ _ i2 (KpOn.of_keep fun b o _ e => Heap.get?_push_of_some _ e) rfl rfl) i3 (fun ys s' hi hm hd => fin ys s' hi.1 hi.2 hm hd) goesOn_name
  · rw [List.mem_singleton.mp hb] at e
    have st' : h.get? S.heap.objs.size = some _ := st
    rw [e] at st'; cases st'
    rintro ⟨_, _, q⟩; cases q
  · rw [List.mem_singleton.mp hb]; exact Nat.le_refl _

/-- a comprehension over a list -/
theorem lcA {elt target iter : Expr} {ifs : List Expr} {scope : Scope} {cl : List (Str × Addr)} {pos : Pos} {Q : Value → Shared → Prop}
    (hclos : closureFor scope env = pure cl) (hkind : scope.kind = .function) (hnames : ∀ y ∈ scope.names, y.2 = .local → scope.names.lookup y.1 = some .local) (hh : A.handled = none)
    (h : wpAny (model prog w) A (eval iter env) (fun xv S => ∃ l items, xv = .ref l ∧ S.heap.IsList l items ∧ items.size ≤ sizeLine ∧ ∃ keep Y, OnLists S.heap.objs.size (ncells scope.names) Y ∧
      MTurnA prog w A S.heap.objs.size env scope cl elt target ifs S items.size (fun i v => items[i]? = some v) keep Y ∧
      ∀ ys s' D, Made S s' keep Y items.size D ys → Q (.ref D) s') E s)
    (hs : ∀ x, foldedSetIterable iter env x = pure x := by intro _; rfl) :
    wpAny (model prog w) A (eval (.ListComp elt [⟨target, iter, ifs, 0⟩] scope pos) env) Q E s := by
  rw [arm_eval_ListComp]
  refine wpAny_comprehension_free (use := none) rfl hs hclos hkind hnames (wpAny_mono h (fun xv S hS => ?_) fun _ _ e => e)
  obtain ⟨l, items, rfl, hl, hsz, keep, Y, hY, turn, fin⟩ := hS
  refine core_list hh hl hsz hY turn fun ys s' r al hm hd => ?_
  obtain ⟨mc, hnc⟩ := hm
  exact ⟨mc, hnc, fun h₂ s₂ => fin ys _ _ (made_of hY r al hd s₂)⟩

variable {s₁ : Shared} {m cm : Str → Option Value} {pm cd : Value}

/-- what the law's own comprehension leaves in a local name -/
structure MadeL (prog : Program) (w : World) (s₁ : Shared) (m cm : Str → Option Value) (y : Str) (S s' : Shared) (keep : Nat → Bool) (Y : Nat → Value → Heap → Prop) (n : Nat) (D : Addr) (ys : List Value) : Prop where
  ls : LS prog w s₁ (fun z => if z = y then some (.ref D) else m z) cm s'
  lk : Lk S.heap s'.heap
  list : s'.heap.IsList D ys.toArray
  all : All2 (fun i y => Y i y s'.heap) (idx keep n) ys

theorem madeL_post {S s' : Shared} {keep : Nat → Bool} {Y : Nat → Value → Heap → Prop} {n nc : Nat} {ys : List Value} {y : Str} {py : Pos} {Q : Flow → Shared → Prop} (hy : (lEnv s₁.heap.objs.size pm cd).kindOf y = some .local)
    (x : LS prog w s₁ m cm S) (hY : OnLists S.heap.objs.size nc Y) (r : Rn S.heap.objs.size S.heap.objs.size S s') (al : All2 (fun i y => Y i y s'.heap) (idx keep n) ys) (hm : ∃ m, s'.heap.Ns (S.heap.objs.size + 2) m)
    (hD : s'.heap.IsList (S.heap.objs.size + 1) ys.toArray) (fin : ∀ ys s' D, MadeL prog w s₁ m cm y S s' keep Y n D ys → Q .next s') :
    compPost (model prog w) A E (some (assign (.Name y py) (lEnv s₁.heap.objs.size pm cd))) (fun _ s' => Q .next s') (.ref (S.heap.objs.size + 1)) (S.heap.objs.size + 2) (.ok .next) s' := by
  obtain ⟨mc, hnc⟩ := hm
  have sz := x.size
  have x' : LS prog w s₁ m cm s' := x.kg ⟨fun b o e => r.kp.low (Heap.lt_size e) e (Heap.lt_size e), r.os, r.bare⟩
  show wpAny _ _ (assign (.Name y py) (lEnv s₁.heap.objs.size pm cd) (.ref (S.heap.objs.size + 1))) _ _ _
  refine wpAny_assign_Name (x'.store hy fun s₅ x₅ sb₅ => ?_)
  have neL : @Ne Nat (S.heap.objs.size + 2) s₁.heap.objs.size := by omega
  refine ⟨mc, hnc.sameBut sb₅ neL, fun h₆ sb₆ => ?_⟩
  replace sb₆ : Heap.SameBut (S.heap.objs.size + 2) s₅.heap h₆ := sb₆
  have lk1 : Lk s'.heap s₅.heap := lk_same (noSeq_ns x'.ns) sb₅
  have lk2 : Lk s₅.heap h₆ := lk_same (noSeq_ns (hnc.sameBut sb₅ neL)) sb₆
  refine fin ys { s₅ with heap := h₆ } (S.heap.objs.size + 1) ⟨?_, ?_, (lk1.trans lk2) _ _ trivial hD, al.mono fun i y q => hY i y _ _ q ((lk1.trans lk2).mono fun _ _ => trivial)⟩
  · refine x₅.rn (I := S.heap.objs.size) sz ⟨KpOn.of_keep fun b o hb e => sb₆.extBut b o (fun q => by have q' : @Eq Nat b _ := q; have hb' : @LT.lt Nat _ b _ := hb; omega) e, rfl, fun q => q⟩
  · have : Lk S.heap s'.heap := fun b vs _ l => r.kp.isList (let ⟨o, e, _⟩ := l; Heap.lt_size e) l
    exact this.trans (lk1.trans lk2)

theorem asgL {elt target iter : Expr} {ifs : List Expr} {scope : Scope} {cl : List (Str × Addr)} {pos spos py : Pos} {y : Str} {Q : Flow → Shared → Prop}
    (hsw : swapsWith (.ListComp elt [⟨target, iter, ifs, 0⟩] scope pos) (some (.Name y py)) spos.line (lEnv s₁.heap.objs.size pm cd) = pure true) (hy : (lEnv s₁.heap.objs.size pm cd).kindOf y = some .local)
    (hclos : closureFor scope (lEnv s₁.heap.objs.size pm cd) = pure cl) (hkind : scope.kind = .function) (hnames : ∀ y ∈ scope.names, y.2 = .local → scope.names.lookup y.1 = some .local) (hh : A.handled = none)
    (h : wpAny (model prog w) A (eval iter (lEnv s₁.heap.objs.size pm cd)) (fun xv S => LS prog w s₁ m cm S ∧ ∃ l items, xv = .ref l ∧ S.heap.IsList l items ∧ items.size ≤ sizeLine ∧ ∃ keep Y, OnLists S.heap.objs.size (ncells scope.names) Y ∧
      MTurnA prog w A S.heap.objs.size (lEnv s₁.heap.objs.size pm cd) scope cl elt target ifs S items.size (fun i v => items[i]? = some v) keep Y ∧
      ∀ ys s' D, MadeL prog w s₁ m cm y S s' keep Y items.size D ys → Q .next s') E s)
    (hs : ∀ x, foldedSetIterable iter (lEnv s₁.heap.objs.size pm cd) x = pure x := by intro _; rfl) :
    wpAny (model prog w) A (exec (.Assign [.Name y py] (.ListComp elt [⟨target, iter, ifs, 0⟩] scope pos) spos) (lEnv s₁.heap.objs.size pm cd)) Q E s := by
  rw [exec_Assign_Name_used _ _ _ _ hsw]
  refine wpAny_bind (wpAny_standAt (wpAny_bind ?_))
  show wpAny _ A (do let _ ← comprehension (.ListComp elt [⟨target, iter, ifs, 0⟩] scope pos) scope (lEnv s₁.heap.objs.size pm cd) _ (newList []) false (eval iter (lEnv s₁.heap.objs.size pm cd)) (some (assign (.Name y py) (lEnv s₁.heap.objs.size pm cd)))) _ _ s
  refine wpAny_bind (wpAny_mono (wpAny_comprehension_free (use := some (assign (.Name y py) (lEnv s₁.heap.objs.size pm cd))) (Q := fun _ s' => Q .next s') rfl hs hclos hkind hnames
    (wpAny_mono h (fun xv S hS => ?_) fun _ _ e => e)) (fun _ s' hq => wpAny_pure (wpAny_pure hq)) fun _ _ e => e)
  obtain ⟨x, l, items, rfl, hl, hsz, keep, Y, hY, turn, fin⟩ := hS
  exact core_list hh hl hsz hY turn fun ys s' r al hm hd => madeL_post hy x hY r al hm hd fin

theorem asgR {elt iter : Expr} {ifs : List Expr} {scope : Scope} {cl : List (Str × Addr)} {pos spos py px : Pos} {x y : Str} {n : Nat} {Q : Flow → Shared → Prop}
    (hsw : swapsWith (.ListComp elt [⟨.Name x px, iter, ifs, 0⟩] scope pos) (some (.Name y py)) spos.line (lEnv s₁.heap.objs.size pm cd) = pure true) (hy : (lEnv s₁.heap.objs.size pm cd).kindOf y = some .local)
    (hclos : closureFor scope (lEnv s₁.heap.objs.size pm cd) = pure cl) (hkind : scope.kind = .function) (hnames : ∀ y ∈ scope.names, y.2 = .local → scope.names.lookup y.1 = some .local) (hh : A.handled = none)
    (hsm : Builtin.Range.small 0 n 1 = true) (hn : Builtin.Range.rangeSize 0 n 1 = (n : Int)) (hsz : n ≤ sizeLine)
    (h : wpAny (model prog w) A (eval iter (lEnv s₁.heap.objs.size pm cd)) (fun xv S => LS prog w s₁ m cm S ∧ ∃ r t u v, xv = .ref r ∧ IsRange S.heap r 0 n 1 t u v ∧ ∃ keep Y, OnLists S.heap.objs.size (ncells scope.names) Y ∧
      MTurnA prog w A S.heap.objs.size (lEnv s₁.heap.objs.size pm cd) scope cl elt (.Name x px) ifs S n (fun i v => ∃ t, v = .int (0 + (i : Int)) t) keep Y ∧
      ∀ ys s' D, MadeL prog w s₁ m cm y S s' keep Y n D ys → Q .next s') E s)
    (hs : ∀ x, foldedSetIterable iter (lEnv s₁.heap.objs.size pm cd) x = pure x := by intro _; rfl) :
    wpAny (model prog w) A (exec (.Assign [.Name y py] (.ListComp elt [⟨.Name x px, iter, ifs, 0⟩] scope pos) spos) (lEnv s₁.heap.objs.size pm cd)) Q E s := by
  rw [exec_Assign_Name_used _ _ _ _ hsw]
  refine wpAny_bind (wpAny_standAt (wpAny_bind ?_))
  show wpAny _ A (do let _ ← comprehension (.ListComp elt [⟨.Name x px, iter, ifs, 0⟩] scope pos) scope (lEnv s₁.heap.objs.size pm cd) _ (newList []) false (eval iter (lEnv s₁.heap.objs.size pm cd)) (some (assign (.Name y py) (lEnv s₁.heap.objs.size pm cd)))) _ _ s
  refine wpAny_bind (wpAny_mono (wpAny_comprehension_free (use := some (assign (.Name y py) (lEnv s₁.heap.objs.size pm cd))) (Q := fun _ s' => Q .next s') rfl hs hclos hkind hnames
    (wpAny_mono h (fun xv S hS => ?_) fun _ _ e => e)) (fun _ s' hq => wpAny_pure (wpAny_pure hq)) fun _ _ e => e)
  obtain ⟨x, r, t, u, v, rfl, hr, keep, Y, hY, turn, fin⟩ := hS
  exact core_range hh hr hsm hn hsz hY turn fun ys s' r al hm hd => madeL_post hy x hY r al hm hd fin
end
end Mine
end

section
open PySem PySem.W PyProof.Rows PySem.SeqAt PySem.Calls
set_option Elab.async false
set_option maxRecDepth 100000
namespace Mine

def sc2 : Scope := { kind := .function, names := [(Str.ofString ".0", .local), (Str.ofString "one", .local), (Str.ofString "two", .local), (Str.ofString "row", .free)], isGenerator := false, isCoroutine := false, more := [] }

/-- the pairs so far -/
def Prs (P : Nat → Prop) (lt eq : Nat → Nat → Bool) (ys : List Value) (h : Heap) : Prop := ∀ (k : Nat) v, ys[k]? = some v → ∃ b, v = .ref b ∧ P b ∧ h.IsList b #[.bool (lt (k / 8) (k % 8)), .bool (eq (k / 8) (k % 8))]
theorem Prs.lk {P P' : Nat → Prop} {lt eq : Nat → Nat → Bool} {ys : List Value} {h h' : Heap} (x : Prs P lt eq ys h) (k : LK P h h') (q : ∀ b vs, P b → h.IsList b vs → P' b) : Prs P' lt eq ys h' := fun i v hv => by
  obtain ⟨b, e, hb, hl⟩ := x i v hv
  exact ⟨b, e, q b _ hb hl, k b _ hb hl⟩

section
variable {prog : Program} {w : World} {A : Around} {E : Value → Shared → Prop} {s : Shared} {env : Env}

theorem iter_at {h h' : Heap} {I l : Addr} {i : Nat} (x : h.IsListIter I l i) (k : ∀ o, h.get? I = some o → h'.get? I = some o) : h'.IsListIter I l i := let ⟨o, e, r⟩ := x; ⟨o, k o e, r⟩

set_option maxHeartbeats 2000000 in
theorem inner_comp {c l : Addr} {f : Nat → List TV} {lt eq : Nat → Nat → Bool} {Q : Value → Shared → Prop} {p1 p2 p3 p4 p5 p6 p7 t1 t2 q1 q2 pos : Pos}
    (hh : A.handled = none) (hk : env.scope.kind = .function) (hkr : env.kindOf (Str.ofString "row") = some .cell) (hcr : env.cells.lookup (Str.ofString "row") = some c) (hclos : closureFor sc2 env = pure [(Str.ofString "row", c)])
    (hcell : s.heap.IsCell c (some (.ref l))) (hT : TLs s.heap l f 8) (hlex : ∀ i j, i < 8 → j < 8 → lexC false (f i) (f j) = some (lt i j)) (heq : ∀ i j, i < 8 → j < 8 → decide (f i = f j) = eq i j) (hu : A.units < cLine)
    (h : ∀ ys s' D, Kg s s' → ys.length = 64 → Prs (fun b => s.heap.objs.size + 3 ≤ b) lt eq ys s'.heap → @LE.le Nat _ s.heap.objs.size D → s'.heap.IsList D ys.toArray → Q (.ref D) s') :
    wpAny (model prog w) A (eval (.ListComp (.List [.Compare (.Name (Str.ofString "one") p1) [.Lt] [.Name (Str.ofString "two") p2] p3, .Compare (.Name (Str.ofString "one") p4) [.Eq] [.Name (Str.ofString "two") p5] p6] p7)
      [⟨.Name (Str.ofString "one") t1, .Name (Str.ofString "row") q1, [], 0⟩, ⟨.Name (Str.ofString "two") t2, .Name (Str.ofString "row") q2, [], 0⟩] sc2 pos) env) Q E s := by
  obtain ⟨vs, hl, hvn, hvi⟩ := hT
  have clt : @LT.lt Nat _ c s.heap.objs.size := by obtain ⟨o, e, _⟩ := hcell; exact Heap.lt_size e
  have llt : @LT.lt Nat _ l s.heap.objs.size := by obtain ⟨o, e, _⟩ := hl; exact Heap.lt_size e
  rw [arm_eval_ListComp]
  refine wpAny_comprehension_free (cl := [(Str.ofString "row", c)]) (use := none) rfl (by intro _; rfl) hclos rfl (by decide +kernel) ?_
  refine nmC hcr hcell (wpAny_pyIter_list hl ?_) hk hkr
  refine wpAny_newObj_type (newEnv_comp ?_)
  generalize hs2 : ({ s with heap := s.heap.push { cls := .type "list_iterator", data := .fields #[.ref l, .int 0 0] } } : Shared) = s₂
  have hH2 : s₂.heap = s.heap.push { cls := .type "list_iterator", data := .fields #[.ref l, .int 0 0] } := by rw [← hs2]
  have hD : s₂.heap.objs.size = s.heap.objs.size + 1 := by rw [hH2, Heap.size_push]
  have hC : ({ s₂ with heap := s₂.heap.push { cls := .type "list", dict := none, data := .seq ([] : List Value).toArray } } : Shared).heap.objs.size = s.heap.objs.size + 2 := by
    show (s₂.heap.push _).objs.size = _
    rw [Heap.size_push, hD]
  rw [hC, hD]
  show codeAny (model prog w) A (.compStart (.ListComp _ [⟨.Name (Str.ofString "one") t1, .Name (Str.ofString "row") q1, [], 0⟩, ⟨.Name (Str.ofString "two") t2, .Name (Str.ofString "row") q2, [], 0⟩] sc2 pos) 0 (.ref s.heap.objs.size) (.ref (s.heap.objs.size + 1)) (compEnvC sc2 (cellsFrom (s.heap.objs.size + 3) sc2.names [(Str.ofString "row", c)]) (s.heap.objs.size + 2) env)) (compPost (model prog w) A E none Q (.ref (s.heap.objs.size + 1)) (s.heap.objs.size + 2))
    { s₂ with heap := (s₂.heap.push { cls := .type "list", dict := none, data := .seq ([] : List Value).toArray }).push { cls := .type "dict", data := .dict #[] } }
  generalize hs4 : ({ s₂ with heap := (s₂.heap.push { cls := .type "list", dict := none, data := .seq ([] : List Value).toArray }).push { cls := .type "dict", data := .dict #[] } } : Shared) = s₄
  have hH4 : s₄.heap = (s₂.heap.push { cls := .type "list", dict := none, data := .seq ([] : List Value).toArray }).push { cls := .type "dict", data := .dict #[] } := by rw [← hs4]
  have k4 : ∀ b o, s.heap.get? b = some o → s₄.heap.get? b = some o := fun b o e => by
    rw [hH4]; exact Heap.get?_push_of_some _ (Heap.get?_push_of_some _ (by rw [hH2]; exact Heap.get?_push_of_some _ e))
  have it4 : s₄.heap.IsListIter s.heap.objs.size l 0 := ⟨_, by rw [hH4]; exact Heap.get?_push_of_some _ (Heap.get?_push_of_some _ (by rw [hH2]; exact Heap.get?_push_size _ rfl)), rfl, rfl⟩
  have eD : s₄.heap.get? (s.heap.objs.size + 1) = some { cls := .type "list", data := .seq ([] : List Value).toArray } := by
    rw [hH4]; refine Heap.get?_push_of_some _ ?_; rw [← hD]; exact Heap.get?_push_size _ rfl
  have hn4 : s₄.heap.Ns (s.heap.objs.size + 2) fun _ => none := by
    have := Heap.Ns.new (s₂.heap.push { cls := .type "list", dict := none, data := .seq ([] : List Value).toArray }) (.type "dict")
    rw [show (s₂.heap.push { cls := .type "list", dict := none, data := .seq ([] : List Value).toArray }).objs.size = s.heap.objs.size + 2 by rw [Heap.size_push, hD]] at this
    rw [hH4]; exact this
  have kg4 : Kg s s₄ := ⟨k4, by rw [← hs4, ← hs2], fun q => by rw [← hs4, ← hs2]; exact q⟩
  clear hs2 hs4 hH2 hH4 hD hC k4
  clear s₂
  generalize hI : s.heap.objs.size = I at *
  have hkrow : (compEnvC sc2 (cellsFrom (I + 3) sc2.names [(Str.ofString "row", c)]) (I + 2) env).kindOf (Str.ofString "row") = some .cell := by
    show List.lookup (Str.ofString "row") (sc2.names.map fun x => if (x.2 == NameKind.free && env.scope.kind == .function && env.kindOf x.1 == some .cell) then (x.1, NameKind.cell) else (x.1, x.2)) = _
    simp only [sc2, List.map]; rw [hk, hkr]; rfl
  -- the two loops
  have go : codeAny (model prog w) A (.compLoop (.ListComp (.List [.Compare (.Name (Str.ofString "one") p1) [.Lt] [.Name (Str.ofString "two") p2] p3, .Compare (.Name (Str.ofString "one") p4) [.Eq] [.Name (Str.ofString "two") p5] p6] p7) [⟨.Name (Str.ofString "one") t1, .Name (Str.ofString "row") q1, [], 0⟩, ⟨.Name (Str.ofString "two") t2, .Name (Str.ofString "row") q2, [], 0⟩] sc2 pos) 0 (.ref I) (.ref (I + 1)) (compEnvC sc2 (cellsFrom (I + 3) sc2.names [(Str.ofString "row", c)]) (I + 2) env)) (compPost (model prog w) A E none Q (.ref (I + 1)) (I + 2)) s₄ := by
    refine comp2_go (fun k s' => ∃ (i : Nat) (ys : List Value) (e : Nat), i ≤ 8 ∧ k = 9 - i ∧ Kg s s' ∧ s'.heap.IsListIter I l i ∧ (∃ m, s'.heap.Ns (I + 2) m) ∧ s'.heap.get? (I + 1) = some { cls := .type "list", data := .seq ys.toArray e } ∧ ys.length = 8 * i ∧ Prs (fun b => I + 3 ≤ b) lt eq ys s'.heap) ?_ 9
      ⟨0, [], 0, Nat.zero_le _, rfl, kg4, it4, ⟨_, hn4⟩, eD, rfl, fun k v hv => by simp at hv⟩
    rintro k s' ⟨i, ys, e, hi, rfl, kg, hit, ⟨m, hn⟩, hacc, hlen, prs⟩ E'
    have hl' : s'.heap.IsList l vs := kg.list hl
    by_cases h8 : i < 8
    · obtain ⟨b1, us1, e1, hb1, hu1⟩ := hvi i h8
      refine wpAny_pyNext_list_item hit hl' e1 fun h₁ hit₁ sb₁ => ?_
      replace sb₁ : Heap.SameBut I s'.heap h₁ := sb₁
      refine goesOn_name (I := I) (St := fun _ _ => True) 0 _ _ _ _ trivial ?_
      refine wpAny_assign_Name (wpAny_storeName_local rfl (hn.sameBut sb₁ (show @Ne Nat _ _ by omega)) (fun h₂ n₂ sb₂ => ?_) rfl)
      replace sb₂ : Heap.SameBut (I + 2) h₁ h₂ := sb₂
      replace n₂ : h₂.Ns (I + 2) (fun y => if y = Str.ofString "one" then some (.ref b1) else m y) := n₂
      have k₂ : ∀ b o, @Ne Nat b I → @Ne Nat b (I + 2) → s'.heap.get? b = some o → h₂.get? b = some o := fun b o q1 q2 e => sb₂.extBut b o q2 (sb₁.extBut b o q1 e)
      have sk₂ : ∀ b o, s.heap.get? b = some o → h₂.get? b = some o := fun b o e => by
        have l : @LT.lt Nat _ b I := hI ▸ Heap.lt_size e
        exact k₂ b o (by omega) (by omega) (kg.keep b o e)
      have hc₂ : h₂.IsCell c (some (.ref l)) := hcell.keeps sk₂
      have hl₂ : h₂.IsList l vs := let ⟨o, e, r⟩ := hl; ⟨o, sk₂ _ o e, r⟩
      refine nmC (c := c) rfl hc₂ ?_ rfl hkrow
      refine wpAny_pyIter_list hl₂ ?_
      have hJ : I + 2 < h₂.objs.size := n₂.lt
      generalize hJ' : h₂.objs.size = J at *
      generalize hh3 : h₂.push { cls := .type "list_iterator", data := .fields #[.ref l, .int 0 0] } = h₃
      have k₃ : ∀ b o, h₂.get? b = some o → h₃.get? b = some o := fun b o e => by rw [← hh3]; exact Heap.get?_push_of_some _ e
      have itJ : h₃.IsListIter J l 0 := ⟨_, by rw [← hh3, ← hJ']; exact Heap.get?_push_size _ rfl, rfl, rfl⟩
      have W := Walks.list (prog := prog) (w := w) (A := A) hh J l (show @Ne Nat l J by omega) vs
      have own3 : OwnAt (I + 2) [] h₃ := by
        have n₃ := n₂.keeps k₃
        refine ⟨⟨_, n₃, ?_⟩, fun p hp => by cases hp⟩
        obtain ⟨o, _, _, e, _⟩ := n₃
        exact ⟨o, e, trivial⟩
      have loop : ∀ tk, codeAny (model prog w) A (.compLoop (.ListComp (.List [.Compare (.Name (Str.ofString "one") p1) [.Lt] [.Name (Str.ofString "two") p2] p3, .Compare (.Name (Str.ofString "one") p4) [.Eq] [.Name (Str.ofString "two") p5] p6] p7) [⟨.Name (Str.ofString "one") t1, .Name (Str.ofString "row") q1, [], 0⟩, ⟨.Name (Str.ofString "two") t2, .Name (Str.ofString "row") q2, [], 0⟩] sc2 pos) 1 (.ref J) (.ref (I + 1)) (compEnvC sc2 (cellsFrom (I + 3) sc2.names [(Str.ofString "row", c)]) (I + 2) env))
          (fun r s₅ => match r with | .ok _ => ∃ k, k < 9 - i ∧ ∃ (i : Nat) (ys : List Value) (e : Nat), i ≤ 8 ∧ k = 9 - i ∧ Kg s s₅ ∧ s₅.heap.IsListIter I l i ∧ (∃ m, s₅.heap.Ns (I + 2) m) ∧ s₅.heap.get? (I + 1) = some { cls := .type "list", data := .seq ys.toArray e } ∧ ys.length = 8 * i ∧ Prs (fun b => I + 3 ≤ b) lt eq ys s₅.heap | .error _ => False)
          { s' with heap := h₃, toks := tk } := by
        intro tk
        refine comp1_loop (n₁ := I) (ys₀ := ys) (e₀ := e) (C := I + 2) (own := []) W (fun i h b o st hb e => ?_) (fun b hb => ?_) ⟨by omega, fun p hp => by cases hp⟩ (show @Ne Nat _ _ by omega) (fun hb => ?_)
          (fun j ys s₅ => Kg s s₅ ∧ s₅.heap.IsListIter I l (i + 1) ∧ ys.length = 8 * i + j ∧ Prs (fun b => I + 3 ≤ b ∧ b ≠ J) lt eq ys s₅.heap ∧ ∃ m, s₅.heap.Ns (I + 2) m ∧ m (Str.ofString "one") = some (.ref b1)) ?_ ?_ ⟨itJ, let ⟨o, e, r⟩ := hl₂; ⟨o, k₃ _ o e, r⟩⟩ ?_ own3 ?_ ?_ ⟨by omega, by omega⟩ (fun p hp => by cases hp) ?_ goesOn_list
        · rcases List.mem_cons.mp hb with rfl | hb
          · exact isListIter_cls st.1 e
          · rw [List.mem_singleton.mp hb] at e; exact isList_cls st.2 e
        · rcases List.mem_cons.mp hb with rfl | hb
          · exact ⟨by omega, fun p hp => by cases hp⟩
          · rw [List.mem_singleton.mp hb]; exact ⟨by omega, fun p hp => by cases hp⟩
        · rcases List.mem_cons.mp hb with hb | hb
          · omega
          · rw [List.mem_singleton] at hb; omega
        · rintro j zs s₅ s₆ ⟨g5, i5, l5, p5, m5, n5, o5⟩ kk gg oo
          have lkk : ∀ b o, s.heap.get? b = some o → s₆.heap.get? b = some o := fun b o e => by
            have l : @LT.lt Nat _ b I := hI ▸ Heap.lt_size e
            exact kk.low ⟨show @Ne Nat _ _ by omega, show @Ne Nat _ _ by omega⟩ (g5.keep b o e) l
          refine ⟨⟨lkk, oo.trans g5.os, fun q => by rw [gg]; exact g5.bare q⟩, ?_, l5, ?_, m5, kk.ns ⟨show @Ne Nat _ _ by omega, show @Ne Nat _ _ by omega⟩ n5, o5⟩
          · obtain ⟨o, e, r⟩ := i5
            exact ⟨o, kk.get ⟨show @Ne Nat _ _ by omega, show @Ne Nat _ _ by omega⟩ e (isListIter_cls ⟨o, e, r⟩ e), r⟩
          · exact p5.lk (fun b vs hb hl => kk.isList ⟨hb.2, by have := hb.1; show @Ne Nat _ _; omega⟩ hl) fun _ _ hb _ => hb
        · rintro j v zs s₅ hj hv st5 ⟨g5, i5, l5, p5, m5, n5, o5⟩ own5 E2
          have hj8 : j < 8 := by omega
          obtain ⟨b2, us2, e2, hb2, hu2⟩ := hvi j hj8
          rw [e2] at hv
          cases hv
          refine wpAny_assign_Name (wpAny_storeName_local rfl n5 (fun h₆ n₆ sb₆ => ?_) rfl)
          replace sb₆ : Heap.SameBut (I + 2) s₅.heap h₆ := sb₆
          replace n₆ : h₆.Ns (I + 2) (fun y => if y = Str.ofString "two" then some (.ref b2) else m5 y) := n₆
          refine ifs0 ?_
          rw [if_pos rfl]
          have up : ∀ b us, s.heap.IsList b us → h₆.IsList b us := fun b us hl => by
            obtain ⟨o, e, r⟩ := hl
            have l : @LT.lt Nat _ b I := hI ▸ Heap.lt_size e
            exact ⟨o, sb₆.extBut b o (show @Ne Nat _ _ by omega) (g5.keep b o e), r⟩
          refine pair_elt (L1 := b1) (L2 := b2) (us := us1) (vs := us2) (as := f i) (bs := f j) (r := lt i j) n₆ (by rw [if_neg (by decide)]; exact o5) (by rw [if_pos rfl]) (up _ _ hb1) (up _ _ hb2) hu1 hu2 (hlex i j h8 hj8) hu rfl rfl rfl ?_
          rw [heq i j h8 hj8]
          have hz6 : I + 2 < h₆.objs.size := n₆.lt
          have keep6 : ∀ b o, @Ne Nat b (I + 2) → s₅.heap.get? b = some o → (h₆.push { cls := .type "list", data := .seq #[.bool (lt i j), .bool (eq i j)] }).get? b = some o := fun b o hb e => Heap.get?_push_of_some _ (sb₆.extBut b o hb e)
          have hJ6 : J < h₆.objs.size := by
            obtain ⟨o, e, _⟩ := st5.1
            have l : @LT.lt Nat _ J s₅.heap.objs.size := Heap.lt_size e
            rw [show h₆.objs.size = s₅.heap.objs.size from sb₆.1]; exact l
          have n7 := n₆.keeps (h' := h₆.push { cls := .type "list", data := .seq #[.bool (lt i j), .bool (eq i j)] }) fun b o e => Heap.get?_push_of_some _ e
          refine ⟨KpOn.of_keep fun b o hb e => keep6 b o hb.1 e, ⟨⟨_, n7, ?_⟩, fun p hp => by cases hp⟩, ⟨fun b o e => keep6 b o (by have l : @LT.lt Nat _ b I := hI ▸ Heap.lt_size e; show @Ne Nat _ _; omega) (g5.keep b o e), g5.os, g5.bare⟩, iter_at i5 (fun o e => keep6 _ o (show @Ne Nat _ _ by omega) e), by rw [List.length_append, l5]; rfl, ?_, _, n7, by rw [if_neg (by decide)]; exact o5⟩
          · obtain ⟨o, _, _, e, _⟩ := n7
            exact ⟨o, e, trivial⟩
          · intro k v hv
            by_cases hk : k < zs.length
            · rw [List.getElem?_append_left hk] at hv
              obtain ⟨b, e, hb, hl⟩ := p5 k v hv
              obtain ⟨o, eo, r⟩ := hl
              exact ⟨b, e, hb, o, keep6 b o (by have := hb.1; show @Ne Nat _ _; omega) eo, r⟩
            · rw [List.getElem?_append_right (by omega)] at hv
              have hk0 : k - zs.length = 0 := by
                by_cases q : k - zs.length = 0
                · exact q
                · rw [List.getElem?_eq_none (by simp; omega)] at hv; cases hv
              rw [hk0] at hv
              cases hv
              have q1 : k / 8 = i := by omega
              have q2 : k % 8 = j := by omega
              rw [q1, q2]
              exact ⟨_, rfl, ⟨by show I + 3 ≤ h₆.objs.size; omega, by show @Ne Nat h₆.objs.size J; omega⟩, _, Heap.get?_push_size _ rfl, rfl, _, rfl⟩
        · exact k₃ _ _ (k₂ _ _ (show @Ne Nat _ _ by omega) (show @Ne Nat _ _ by omega) hacc)
        · refine ⟨⟨fun b o e => k₃ b o (sk₂ b o e), kg.os, kg.bare⟩, iter_at hit₁ (fun o e => k₃ _ o (sb₂.extBut _ o (show @Ne Nat _ _ by omega) e)), by omega, ?_, _, n₂.keeps k₃, by rw [if_pos rfl]⟩
          refine prs.lk (fun b us hb hl => ?_) fun b us hb hl => ⟨hb, ?_⟩
          · obtain ⟨o, e, r⟩ := hl
            exact ⟨o, k₃ b o (k₂ b o (show @Ne Nat _ _ by omega) (show @Ne Nat _ _ by omega) e), r⟩
          · obtain ⟨o, e, r⟩ := hl
            have l : @LT.lt Nat _ b h₂.objs.size := Heap.lt_size (k₂ b o (show @Ne Nat _ _ by omega) (show @Ne Nat _ _ by omega) e)
            show @Ne Nat _ _
            omega
        · rw [sizeLine_eq]; omega
        · rintro zs s₅ e5 ⟨g5, i5, l5, p5, m5, n5, o5⟩ own5 a5 _
          refine ⟨9 - (i + 1), by omega, i + 1, zs, e5, by omega, rfl, g5, i5, ⟨m5, n5⟩, a5, by omega, p5.lk (fun b us hb hl => hl) fun b us hb hl => hb.1⟩
      exact codeAny_compStart1 (loop _) (W.self 0 _ _ _ ⟨itJ, let ⟨o, e, r⟩ := hl₂; ⟨o, k₃ _ o e, r⟩⟩ (loop _))
    · have h8' : i = 8 := by omega
      subst h8'
      refine wpAny_pyNext_list_end hh hit hl' (by simp [hvn]) fun h₂ x₂ => ?_
      replace x₂ : Heap.ExtBut I s'.heap h₂ := x₂
      have nC : h₂.Ns (I + 2) m := hn.at' fun o e => x₂ _ o (show @Ne Nat _ _ by omega) e
      refine ⟨m, nC, fun h₃ sb₃ => ?_⟩
      replace sb₃ : Heap.SameBut (I + 2) h₂ h₃ := sb₃
      have k₃ : ∀ b o, @Ne Nat b I → @Ne Nat b (I + 2) → s'.heap.get? b = some o → h₃.get? b = some o := fun b o q1 q2 e => sb₃.extBut b o q2 (x₂ b o q1 e)
      refine h ys _ (I + 1) ⟨fun b o e => ?_, kg.os, kg.bare⟩ (by omega) (prs.lk (fun b us hb hl => ?_) fun _ _ hb _ => hb) (Nat.le_succ _) ⟨_, k₃ _ _ (show @Ne Nat _ _ by omega) (show @Ne Nat _ _ by omega) hacc, rfl, _, rfl⟩
      · have l : @LT.lt Nat _ b I := hI ▸ Heap.lt_size e
        exact k₃ b o (show @Ne Nat _ _ by omega) (show @Ne Nat _ _ by omega) (kg.keep b o e)
      · obtain ⟨o, e, r⟩ := hl
        exact ⟨o, k₃ b o (show @Ne Nat _ _ by omega) (show @Ne Nat _ _ by omega) e, r⟩
  exact codeAny_compStart_list go ((Walks.list (prog := prog) (w := w) (A := A) hh I l (show @Ne Nat l I by omega) vs).self 0 _ _ _ ⟨it4, kg4.list hl⟩ go)
end
end Mine
end

section
open PySem PySem.W PyProof.Rows PySem.SeqAt PySem.Calls
set_option Elab.async false
set_option maxRecDepth 100000
namespace Mine

/-- a list of 64 pairs of truths -/
def Ord (h : Heap) (D : Addr) (lt eq : Nat → Nat → Bool) : Prop := ∃ ys : List Value, h.IsList D ys.toArray ∧ ys.length = 64 ∧ Prs (fun _ => True) lt eq ys h

section
variable {prog : Program} {w : World} {A : Around} {E : Value → Shared → Prop} {s₁ s : Shared} {m cm : Str → Option Value} {pm cd : Value}

/-- a cell of the law's own -/
theorem LS.nm {env : Env} {n : Str} {c : Addr} {v : Value} {pos : Pos} {Q : Value → Shared → Prop} (x : LS prog w s₁ m cm s) (hn : cm n = some v) (hc : (lCells s₁.heap.objs.size).lookup n = some c) (he : env.cells.lookup n = some c) (h : Q v s)
    (hk : env.scope.kind = .function := by rfl) (hl : env.kindOf n = some .cell := by rfl) (hd : (n == ("__debug__" : Str)) = false := by decide) : wpAny (model prog w) A (eval (.Name n pos) env) Q E s :=
  nmC he (by have := x.cell n c hc; rw [hn] at this; exact this) h hk hl hd

theorem rk_heq {X : Nat → Int} {g : Int → List TV} (h : ∀ x y, g x = g y ↔ rk x = rk y) (i j : Nat) : decide (g (X i) = g (X j)) = decide (rk (X i) = rk (X j)) := decide_eq_decide.mpr (h _ _)

set_option maxHeartbeats 2000000 in
/-- the orders -/
theorem law3 {T W : Addr} {X : Nat → Int} {Q : Flow → Shared → Prop} (hh : A.handled = none) (hu : A.units + 5 < cLine) (x : LS prog w s₁ m cm s) (ht : cm (Str.ofString "told") = some (.ref T)) (hw : cm (Str.ofString "worths") = some (.ref W))
    (hT : TLs s.heap T (fun i => td (X i)) 8) (hW : TLs s.heap W (fun i => wd (X i)) 8)
    (h : ∀ D D0 D1 s', LS prog w s₁ (fun z => if z = Str.ofString "orders" then some (.ref D) else m z) cm s' → Lk s.heap s'.heap → s'.heap.IsList D #[.ref D0, .ref D1] →
      Ord s'.heap D0 (fun i j => ordC false (rk (X i)) (rk (X j))) (fun i j => decide (rk (X i) = rk (X j))) → Ord s'.heap D1 (fun i j => ordC false (rk (X i)) (rk (X j))) (fun i j => decide (rk (X i) = rk (X j))) → Q .next s') :
    wpAny (model prog w) A (exec (lS 3) (lEnv s₁.heap.objs.size pm cd)) Q E s := by
  refine asgL (m := m) (cm := cm) (cl := []) rfl rfl rfl rfl (by decide +kernel) hh ?_
  refine wpAny_List (wpAny_items_cons (x.nm ht (c := s₁.heap.objs.size + 3) rfl rfl (wpAny_items_cons (x.nm hw (c := s₁.heap.objs.size + 2) rfl rfl (wpAny_items_nil ⟨by size_fits, ?_⟩)))))
  generalize hS : ({ s with heap := s.heap.push { cls := .type "list", data := .seq [Value.ref T, Value.ref W].toArray } } : Shared) = S
  have hHS : S.heap = s.heap.push { cls := .type "list", data := .seq [Value.ref T, Value.ref W].toArray } := by rw [← hS]
  have kS : Kg s S := by rw [← hS]; exact ⟨fun b o e => Heap.get?_push_of_some _ e, rfl, fun q => q⟩
  have hlS : S.heap.IsList s.heap.objs.size #[.ref T, .ref W] := ⟨_, by rw [hHS]; exact Heap.get?_push_size _ rfl, rfl, _, rfl⟩
  have zS : S.heap.objs.size = s.heap.objs.size + 1 := by rw [hHS, Heap.size_push]
  have xS := x.kg kS
  refine ⟨xS, s.heap.objs.size, _, rfl, hlS, (show 2 ≤ sizeLine by decide), fun _ => true, fun i y h => ∃ (D : Addr) (ys : List Value), y = .ref D ∧ @LE.le Nat _ (S.heap.objs.size + 4) D ∧ h.IsList D ys.toArray ∧ ys.length = 64 ∧ Prs (fun b => S.heap.objs.size + 4 ≤ b) (fun i j => ordC false (rk (X i)) (rk (X j))) (fun i j => decide (rk (X i) = rk (X j))) ys h, ?_, ?_, ?_⟩
  · rintro i y h h' ⟨D, ys, rfl, hD, hl, hn, hp⟩ k
    exact ⟨D, ys, rfl, hD, k _ _ (.inr hD) hl, hn, hp.lk (k.mono fun b hb => .inr hb) fun _ _ q _ => q⟩
  · refine turnT (setsC rfl rfl rfl rfl) fun i s' hi kg hN hown E' => ifs0 ⟨Kg.refl, rfl, fun _ => ?_⟩
    obtain ⟨v, hv, hc⟩ := hN
    have zc : S.heap.objs.size + 3 < s'.heap.objs.size := by obtain ⟨o, e, _⟩ := hc; exact Heap.lt_size e
    have k' := kS.trans kg
    have go : ∀ {l : Addr} {f : Nat → List TV}, v = .ref l → TLs s'.heap l f 8 → (∀ i j, i < 8 → j < 8 → lexC false (f i) (f j) = some (ordC false (rk (X i)) (rk (X j)))) → (∀ i j, i < 8 → j < 8 → decide (f i = f j) = decide (rk (X i) = rk (X j))) →
        wpAny (model prog w) A (eval (match lS 3 with | .Assign _ (.ListComp e _ _ _) _ => e | _ => .Name Str.empty default) (cE (match lS 3 with | .Assign _ (.ListComp _ _ s _) _ => s | _ => default) [] S.heap.objs.size (lEnv s₁.heap.objs.size pm cd))) (fun y s₄ => Kg s' s₄ ∧ ∃ (D : Addr) (ys : List Value), y = .ref D ∧ @LE.le Nat _ (S.heap.objs.size + 4) D ∧ s₄.heap.IsList D ys.toArray ∧ ys.length = 64 ∧ Prs (fun b => S.heap.objs.size + 4 ≤ b) (fun i j => ordC false (rk (X i)) (rk (X j))) (fun i j => decide (rk (X i) = rk (X j))) ys s₄.heap) E' s' := by
      intro l f e hTl hlx heq
      subst e
      refine inner_comp (c := S.heap.objs.size + 3) hh rfl rfl rfl rfl hc hTl hlx heq (by omega) fun ys s₄ D k₄ hlen prs hD hlD => ⟨k₄, D, ys, rfl, ?_, hlD, hlen, prs.lk (fun _ _ _ l => l) fun b _ hb _ => ?_⟩
      · exact Nat.le_trans zc hD
      · have hb' : s'.heap.objs.size + 3 ≤ b := hb
        show S.heap.objs.size + 4 ≤ b
        omega
    match i, hi, hv with
    | 0, _, hv =>
      exact go (Option.some.inj hv).symm (k'.lk.tls hT) (fun i j _ _ => td_lex false _ _) (fun i j _ _ => rk_heq td_eq i j)
    | 1, _, hv =>
      exact go (Option.some.inj hv).symm (k'.lk.tls hW) (fun i j _ _ => wd_lex false _ _) (fun i j _ _ => rk_heq wd_eq i j)
    | (n + 2), hi, _ => exact absurd hi (by simp)
  · intro ys s' D M
    obtain ⟨hlen, hall⟩ := all2_range M.all
    obtain ⟨y0, e0, D0, zs0, rfl, _, l0, n0, p0⟩ := hall 0 (show 0 < 2 by decide)
    obtain ⟨y1, e1, D1, zs1, rfl, _, l1, n1, p1⟩ := hall 1 (show 1 < 2 by decide)
    have hys : ys = [.ref D0, .ref D1] := by
      match ys, hlen, e0, e1 with
      | [a, b], _, e0, e1 => rw [Option.some.inj e0, Option.some.inj e1]
    refine h D D0 D1 s' M.ls (kS.lk.trans M.lk) (by have := M.list; rw [hys] at this; exact this) ⟨zs0, l0, n0, p0.lk (fun _ _ _ l => l) fun _ _ _ _ => trivial⟩ ⟨zs1, l1, n1, p1.lk (fun _ _ _ l => l) fun _ _ _ _ => trivial⟩

theorem all_true (n : Nat) : ((List.range n).all fun _ => true) = true := by rw [List.all_eq_true]; intro _ _; rfl

theorem pair_eqAt {b c : Addr} {p q : Bool} (hu : A.units < cLine) (hb : s.heap.IsList b #[.bool p, .bool q]) (hc : s.heap.IsList c #[.bool p, .bool q]) : EqAt A s (.ref b) (.ref c) true := by
  by_cases e : b = c
  · subst e; exact EqAt.same _
  · have := RcAt.lists (A := A) (e := fun _ => true) hb hc rfl hu fun j h1 h2 => by
      match j, h1 with
      | 0, _ => simpa using EqAt.bool_bool (A := A.in1) (s := s) p p
      | 1, _ => simpa using EqAt.bool_bool (A := A.in1) (s := s) q q
    rw [all_true] at this
    exact EqAt.of_refs e this

/-- like orders -/
theorem ord_ne {D0 D1 : Addr} {lt eq : Nat → Nat → Bool} {Q : Value → Shared → Prop} (hu : A.units + 5 < cLine) (h0 : Ord s.heap D0 lt eq) (h1 : Ord s.heap D1 lt eq) (h : Q (.bool false) s) : wpAny (model prog w) A (compareOp .NotEq (.ref D0) (.ref D1)) Q E s := by
  obtain ⟨ys, l0, n0, p0⟩ := h0
  obtain ⟨zs, l1, n1, p1⟩ := h1
  have := RcNeAt.lists (A := A) (e := fun _ => true) l0 l1 (by simp [n0, n1]) (by omega) fun j h1 h2 => by
    have hj : j < ys.length := by simpa using h1
    have hj2 : j < zs.length := by simpa using h2
    obtain ⟨b, e, _, hb⟩ := p0 j ys[j] (by simp)
    obtain ⟨c, e', _, hc⟩ := p1 j zs[j] (by simp)
    have : EqAt A.in1 s (.ref b) (.ref c) true := pair_eqAt (by show A.units + 1 < cLine; omega) hb hc
    rw [← e, ← e'] at this
    simpa using this
  rw [all_true] at this
  exact this prog w E Q h

theorem law4 {D D0 D1 : Addr} {lt eq : Nat → Nat → Bool} {Q : Flow → Shared → Prop} (hu : A.units + 5 < cLine) (x : LS prog w s₁ m cm s) (hm : m (Str.ofString "orders") = some (.ref D)) (hl : s.heap.IsList D #[.ref D0, .ref D1])
    (h0 : Ord s.heap D0 lt eq) (h1 : Ord s.heap D1 lt eq) (h : ∀ s', Kg s s' → Q .next s') : wpAny (model prog w) A (exec (lS 4) (lEnv s₁.heap.objs.size pm cd)) Q E s := by
  refine wpAny_If (wpAny_isTrue_Compare1 (sub_ (nmL x.ns hm (wpAny_Constant_int ?_))))
  refine item_list hl (by decide) (by decide) rfl ?_
  refine sub_ (nmL x.ns hm (wpAny_Constant_int ?_))
  refine item_list hl (by decide) (by decide) rfl ?_
  show wpAny _ _ (compareOp .NotEq (.ref D0) (.ref D1)) _ _ _
  refine ord_ne hu h0 h1 (wpAny_truthy_bool ?_)
  show wpAny _ _ (execs [] _) _ _ _
  exact wpAny_execs_nil (h _ ⟨fun _ _ e => e, rfl, fun q => q⟩)
end
end Mine
end

section
open PySem PySem.W PyProof.Rows PySem.SeqAt PySem.Calls
set_option Elab.async false
set_option maxRecDepth 100000
namespace Mine

theorem All2.map_left {α β γ : Type} {R : γ → β → Prop} {f : α → γ} : ∀ {l : List α} {ys : List β}, All2 (fun i y => R (f i) y) l ys → All2 R (l.map f) ys
  | _, _, .nil => .nil
  | _, _, .cons h t => .cons h t.map_left

/-- a range of releases: the lesser one first -/
def rg (X : Nat → Int) (i : Nat) : Nat × Nat := if rk (X (2 * i)) < rk (X (2 * i + 1)) then (2 * i, 2 * i + 1) else (2 * i + 1, 2 * i)
def rgKeep (X : Nat → Int) (i : Nat) : Bool := !decide (rk (X (2 * i)) = rk (X (2 * i + 1)))
def rngs (X : Nat → Int) : List (Nat × Nat) := (idx (rgKeep X) 3).map (rg X)
def RP (h : Heap) (p : Nat × Nat) (v : Value) : Prop := ∃ b t u, v = .ref b ∧ h.IsList b #[.int (p.1 : Nat) t, .int (p.2 : Nat) u]
def RGs (h : Heap) (a : Addr) (l : List (Nat × Nat)) : Prop := ∃ vs : List Value, h.IsList a vs.toArray ∧ All2 (RP h) l vs
theorem Lk.rgs {h h' : Heap} {a : Addr} {l : List (Nat × Nat)} (k : Lk h h') (x : RGs h a l) : RGs h' a l := by
  obtain ⟨vs, hl, al⟩ := x
  exact ⟨vs, k _ _ trivial hl, al.mono fun p v ⟨b, t, u, e, hb⟩ => ⟨b, t, u, e, k _ _ trivial hb⟩⟩

section
variable {prog : Program} {w : World} {A : Around} {E : Value → Shared → Prop} {s₁ s : Shared} {m cm : Str → Option Value} {pm cd : Value}

theorem tls_item {a : Addr} {f : Nat → List TV} {k : Nat} {t : Tok} {Q : Value → Shared → Prop} (x : TLs s.heap a f 8) (hk : k < 8) (h : ∀ b us, s.heap.IsList b us → Holds2 us.toList (f k) → Q (.ref b) s) :
    ItemOn (model prog w) A E (.ref a) (.int (k : Int) t) Q s := by
  obtain ⟨vs, hl, hn, hi⟩ := x
  obtain ⟨b, us, e, hb, hu⟩ := hi k hk
  exact item_list hl (by omega) (by omega) (by simpa using e) (h b us hb hu)

/-- unlike lists: unlike contents -/
theorem list_neT {l b : Addr} {vs us : Array Value} {as bs : List TV} {Q : Value → Shared → Prop}
    (hl : s.heap.IsList l vs) (hb : s.heap.IsList b us) (ha : Holds2 vs.toList as) (hbs : Holds2 us.toList bs) (hu : A.units < cLine) (h : Q (.bool (!decide (as = bs))) s) :
    wpAny (model prog w) A (compareOp .NotEq (.ref l) (.ref b)) Q E s := by
  have la := ha.length
  have lb := hbs.length
  by_cases hsz : vs.size = us.size
  · have key := RcNeAt.lists (e := fun j => decide (as[j]? = bs[j]?)) hl hb hsz hu fun j h1 h2 => by
      have ja : j < as.length := by rw [← la]; simpa using h1
      have jb : j < bs.length := by rw [← lb]; simpa using h2
      have e1 := holds2_get ha (i := j) (v := vs[j]) (t := as[j]) (by simp [h1]) (by simp [ja])
      have e2 := holds2_get hbs (i := j) (v := us[j]) (t := bs[j]) (by simp [h2]) (by simp [jb])
      have := tv_eqAt (A := A.in1) (s := s) e1 e2
      have e3 : decide (as[j]? = bs[j]?) = decide (as[j] = bs[j]) := by simp [ja, jb]
      rw [e3]; exact this
    refine key prog w E Q ?_
    have e : ((List.range vs.size).all fun j => decide (as[j]? = bs[j]?)) = decide (as = bs) := by
      have lsz : vs.size = as.length := by rw [← la]; simp
      have lsz2 : us.size = bs.length := by rw [← lb]; simp
      apply Bool.eq_iff_iff.mpr
      simp only [List.all_eq_true, List.mem_range, decide_eq_true_eq]
      constructor
      · intro q
        apply List.ext_getElem?
        intro j
        by_cases hj : j < vs.size
        · exact q j hj
        · rw [List.getElem?_eq_none (by omega), List.getElem?_eq_none (by omega)]
      · rintro rfl j _; rfl
    rw [e]; exact h
  · refine RcNeAt.lists_lengths hl hb (by simpa using hsz) hu prog w E Q ?_
    have : ¬ as = bs := fun q => hsz (by
      have a1 : vs.size = as.length := by rw [← la]; simp
      have a2 : us.size = bs.length := by rw [← lb]; simp
      rw [a1, a2, q])
    rw [decide_eq_false this] at h
    exact h

theorem add1 {k : Nat} {t u : Tok} {Q : Value → Shared → Prop} (h : ∀ t tk, Q (.int ((k + 1 : Nat) : Int) t) { s with toks := tk }) : wpAny (model prog w) A (binaryOp .Add (.int (k : Int) t) (.int 1 u)) Q E s := by
  refine P.add_int ?_
  have e : (k : Int) + 1 = ((k + 1 : Nat) : Int) := by push_cast; rfl
  rw [e]; exact h _ _

theorem list3 {env : Env} {a b c : Int} {p0 p1 p2 pos : Pos} {Q : Value → Shared → Prop} (h : ∀ l S t u v, Kg s S → S.heap.IsList l #[.int a t, .int b u, .int c v] → Q (.ref l) S) :
    wpAny (model prog w) A (eval (.List [.Constant (.int a) 0 p0, .Constant (.int b) 0 p1, .Constant (.int c) 0 p2] pos) env) Q E s := by
  refine wpAny_List (wpAny_items_cons (wpAny_Constant_int (wpAny_items_cons (wpAny_Constant_int (wpAny_items_cons (wpAny_Constant_int (wpAny_items_nil ⟨by size_fits, ?_⟩)))))))
  exact h _ _ _ _ _ ⟨fun b o e => Heap.get?_push_of_some _ e, rfl, fun q => q⟩ ⟨_, Heap.get?_push_size _ rfl, rfl, _, rfl⟩

set_option maxHeartbeats 2000000 in
/-- the ranges -/
theorem law5 {W : Addr} {X : Nat → Int} {Q : Flow → Shared → Prop} (hh : A.handled = none) (hu : A.units + 5 < cLine) (x : LS prog w s₁ m cm s) (hw : cm (Str.ofString "worths") = some (.ref W)) (hW : TLs s.heap W (fun i => wd (X i)) 8)
    (h : ∀ D s', LS prog w s₁ m (fun y => if y = Str.ofString "ranges" then some (.ref D) else cm y) s' → Lk s.heap s'.heap → RGs s'.heap D (rngs X) → Q .next s') :
    wpAny (model prog w) A (exec (lS 5) (lEnv s₁.heap.objs.size pm cd)) Q E s := by
  refine wpAny_Assign_Name (lcA (cl := [(Str.ofString "worths", s₁.heap.objs.size + 2)]) rfl rfl (by decide +kernel) hh ?_)
  refine list3 fun l S t0 t1 t2 kS hlS => ?_
  refine ⟨_, _, rfl, hlS, (show 3 ≤ sizeLine by decide), rgKeep X, fun i y h => ∃ b t u, y = .ref b ∧ @LE.le Nat _ (S.heap.objs.size + 3) b ∧ h.IsList b #[.int ((rg X i).1 : Nat) t, .int ((rg X i).2 : Nat) u], ?_, ?_, ?_⟩
  · rintro i y h h' ⟨b, t, u, rfl, hb, hl⟩ k
    exact ⟨b, t, u, rfl, hb, k _ _ (.inr hb) hl⟩
  · refine turnT (setsN rfl rfl) fun i s' hi kg hN hown E' => ?_
    obtain ⟨v, mm, hv, hn, hj⟩ := hN
    have hi3 : i < 3 := hi
    have hv' : ∃ t, v = .int ((2 * i : Nat) : Int) t := by
      match i, hi3, hv with
      | 0, _, hv => exact ⟨_, (Option.some.inj hv).symm⟩
      | 1, _, hv => exact ⟨_, (Option.some.inj hv).symm⟩
      | 2, _, hv => exact ⟨_, (Option.some.inj hv).symm⟩
    obtain ⟨t, rfl⟩ := hv'
    have k' : Kg s s' := kS.trans kg
    have x' := x.kg k'
    have W' := k'.lk.tls hW
    have lt2 := hown.lt
    refine ifs1 (wpAny_isTrue_Compare1 (sub_ (x'.nm hw (c := s₁.heap.objs.size + 2) rfl rfl (nmL hn hj (tls_item W' (by omega) fun b1 us1 l1 u1 => ?_)))))
    refine sub_ (x'.nm hw (c := s₁.heap.objs.size + 2) rfl rfl (wpAny_BinOp (nmL hn hj (wpAny_Constant_int (add1 fun t2 tk2 => tls_item W' (by omega) fun b2 us2 l2 u2 => ?_)))))
    refine list_neT l1 l2 u1 u2 (by omega) (wpAny_truthy_bool ⟨⟨fun _ _ e => e, rfl, fun q => q⟩, ?_, fun hb => ?_⟩)
    · show (!decide (wd (X (2 * i)) = wd (X (2 * i + 1)))) = rgKeep X i
      unfold rgKeep
      rw [rk_heq wd_eq]
    refine wpAny_IfExp (wpAny_isTrue_Compare1 (sub_ (LS.nm (x'.kg ⟨fun _ _ e => e, rfl, fun q => q⟩) hw (c := s₁.heap.objs.size + 2) rfl rfl (nmL hn hj (tls_item W' (by omega) fun b1 us1 l1 u1 => ?_)))))
    refine sub_ (LS.nm (x'.kg ⟨fun _ _ e => e, rfl, fun q => q⟩) hw (c := s₁.heap.objs.size + 2) rfl rfl (wpAny_BinOp (nmL hn hj (wpAny_Constant_int (add1 fun t2 tk2 => tls_item W' (by omega) fun b2 us2 l2 u2 => ?_)))))
    refine list_ord (le := false) l1 l2 u1 u2 (wd_lex false _ _) (by omega) (wpAny_truthy_bool ?_)
    by_cases hlt : rk (X (2 * i)) < rk (X (2 * i + 1))
    · rw [show ordC false (rk (X (2 * i))) (rk (X (2 * i + 1))) = true from decide_eq_true hlt, if_pos rfl]
      refine wpAny_List (wpAny_items_cons (nmL hn hj (wpAny_items_cons (wpAny_BinOp (nmL hn hj (wpAny_Constant_int (add1 fun t3 tk3 => wpAny_items_nil ⟨by size_fits, ?_⟩)))))))
      refine ⟨⟨fun b o e => Heap.get?_push_of_some _ e, rfl, fun q => q⟩, _, t, t3, rfl, ?_, ?_⟩
      · exact lt2
      · rw [show rg X i = (2 * i, 2 * i + 1) from if_pos hlt]
        exact ⟨_, Heap.get?_push_size _ rfl, rfl, _, rfl⟩
    · rw [show ordC false (rk (X (2 * i))) (rk (X (2 * i + 1))) = false from decide_eq_false hlt, if_neg (by simp)]
      refine wpAny_List (wpAny_items_cons (wpAny_BinOp (nmL hn hj (wpAny_Constant_int (add1 fun t3 tk3 => wpAny_items_cons (nmL hn hj (wpAny_items_nil ⟨by size_fits, ?_⟩)))))))
      refine ⟨⟨fun b o e => Heap.get?_push_of_some _ e, rfl, fun q => q⟩, _, t3, t, rfl, ?_, ?_⟩
      · exact lt2
      · rw [show rg X i = (2 * i + 1, 2 * i) from if_neg hlt]
        exact ⟨_, Heap.get?_push_size _ rfl, rfl, _, rfl⟩
  · intro ys s' D M
    have k' : Kg s s' := kS.trans M.kg
    have al : All2 (fun i v => RP s'.heap (rg X i) v) (idx (rgKeep X) 3) ys := M.all.mono fun i y ⟨b, t, u, e, _, hl⟩ => ⟨b, t, u, e, hl⟩
    have R : RGs s'.heap D (rngs X) := ⟨ys, M.list, al.map_left⟩
    have x' := x.kg k'
    refine x'.storeC (c := s₁.heap.objs.size + 4) rfl rfl (fun n' c' h' hne => cells_apart (n := Str.ofString "ranges") rfl h' hne) fun s₆ L₆ sb₆ => ?_
    have lk6 := lk_same (noSeq_cell (x'.cell (Str.ofString "ranges") _ rfl)) sb₆
    exact h D s₆ L₆ (k'.lk.trans lk6) (lk6.rgs R)
end
end Mine
end

section
open PySem PySem.W PyProof.Rows PySem.SeqAt PySem.Calls
set_option Elab.async false
set_option maxRecDepth 100000
namespace Mine

theorem All2.getR {α β : Type} {R : α → β → Prop} : ∀ {as : List α} {bs : List β}, All2 R as bs → ∀ (i : Nat) (b : β), bs[i]? = some b → ∃ a, as[i]? = some a ∧ R a b
  | _, _, .nil, _, _, h => by simp at h
  | _, _, .cons h t, 0, a, e => by
    have : _ = a := Option.some.inj e
    subst this
    exact ⟨_, rfl, h⟩
  | _, _, .cons h t, i + 1, a, e => t.getR i a e
theorem All2.append {α β : Type} {R : α → β → Prop} : ∀ {as : List α} {bs : List β} {as' : List α} {bs' : List β}, All2 R as bs → All2 R as' bs' → All2 R (as ++ as') (bs ++ bs')
  | _, _, _, _, .nil, h => h
  | _, _, _, _, .cons a t, h => .cons a (t.append h)

theorem range_getD {α : Type} (l : List α) (d : α) : l = (List.range l.length).map (fun i => l.getD i d) := by
  apply List.ext_getElem
  · simp
  · intro i h1 h2
    simp [h1]

theorem all2_filter {α β : Type} (d : α) {R : α → β → Prop} {l : List α} {kp : α → Bool} {ys : List β} {n : Nat} (hn : n = l.length) (h : All2 (fun i y => ∃ p, l[i]? = some p ∧ R p y) (idx (fun i => kp (l.getD i d)) n) ys) : All2 R (l.filter kp) ys := by
  subst hn
  have e : l.filter kp = (idx (fun i => kp (l.getD i d)) l.length).map (fun i => l.getD i d) := by
    conv => lhs; rw [range_getD l d]
    rw [List.filter_map]
    rfl
  rw [e]
  refine All2.map_left (h.mono fun i y ⟨p, hp, hr⟩ => ?_)
  have : l.getD i d = p := by simp [hp]
  rw [this]; exact hr
theorem all2_all {α β : Type} {R : α → β → Prop} {l : List α} {ys : List β} {n : Nat} (hn : n = l.length) (h : All2 (fun i y => ∃ p, l[i]? = some p ∧ R p y) (idx (fun _ => true) n) ys) : All2 R l ys := by
  have hl := h.length
  rw [idx_all, List.length_range] at hl
  rw [idx_all] at h
  subst hn
  have go : ∀ {as : List α} {bs : List β}, as.length = bs.length → (∀ (i : Nat) (a : α) (b : β), as[i]? = some a → bs[i]? = some b → R a b) → All2 R as bs := by
    intro as
    induction as with
    | nil => intro bs hl _; cases bs with | nil => exact .nil | cons _ _ => cases hl
    | cons a as ih =>
      intro bs hl hp
      cases bs with
      | nil => cases hl
      | cons b bs => exact .cons (hp 0 a b rfl rfl) (ih (Nat.succ.inj hl) fun i x y hx hy => hp (i + 1) x y hx hy)
  refine go hl fun i a b ha hb => ?_
  obtain ⟨j, hj, p, hp, hr⟩ := h.getR i b hb
  have : j = i := by
    have hi : i < l.length := (List.getElem?_eq_some_iff.mp ha).1
    simp [hi] at hj
    exact hj.symm
  subst this
  rw [ha] at hp; cases hp
  exact hr

/-- a point: of which release, and the sign -/
def PT (X : Nat → Int) (h : Heap) (p : Nat × Str) (v : Value) : Prop := ∃ b c t us, v = .ref b ∧ h.IsList b #[.ref c, .str p.2 t] ∧ h.IsList c us ∧ Holds2 us.toList (td (X p.1))
def PTs (X : Nat → Int) (h : Heap) (a : Addr) (l : List (Nat × Str)) : Prop := ∃ vs : List Value, h.IsList a vs.toArray ∧ All2 (PT X h) l vs
theorem Lk.pt {X : Nat → Int} {h h' : Heap} (k : Lk h h') {p : Nat × Str} {v : Value} (x : PT X h p v) : PT X h' p v :=
  let ⟨b, c, t, us, e, hb, hc, hu⟩ := x; ⟨b, c, t, us, e, k _ _ trivial hb, k _ _ trivial hc, hu⟩
theorem Lk.pts {X : Nat → Int} {h h' : Heap} {a : Addr} {l : List (Nat × Str)} (k : Lk h h') (x : PTs X h a l) : PTs X h' a l := by
  obtain ⟨vs, hl, al⟩ := x
  exact ⟨vs, k _ _ trivial hl, al.mono fun p v q => k.pt q⟩

def scP : Scope := { kind := .function, names := [(Str.ofString ".0", .local), (Str.ofString "first", .local), (Str.ofString "behind", .local), (Str.ofString "told", .free)], isGenerator := false, isCoroutine := false, more := [] }

section
variable {prog : Program} {w : World} {A : Around} {E : Value → Shared → Prop} {s₁ s : Shared} {m cm : Str → Option Value} {pm cd : Value}

theorem rgs_size {h : Heap} {a : Addr} {l : List (Nat × Nat)} (x : RGs h a l) : ∃ vs : List Value, h.IsList a vs.toArray ∧ vs.length = l.length ∧ ∀ (i : Nat) (v : Value), vs[i]? = some v → ∃ p b t u, l[i]? = some p ∧ v = .ref b ∧ h.IsList b #[.int (p.1 : Nat) t, .int (p.2 : Nat) u] := by
  obtain ⟨vs, hl, al⟩ := x
  refine ⟨vs, hl, al.length.symm, fun i v hv => ?_⟩
  obtain ⟨p, hp, b, t, u, e, hb⟩ := al.getR i v hv
  exact ⟨p, b, t, u, hp, e, hb⟩

set_option maxHeartbeats 2000000 in
theorem pts_comp {T G : Addr} {X : Nat → Int} {l : List (Nat × Nat)} {nm sg : Str} {pick : Nat × Nat → Nat} {p1 p2 p3 p4 p5 p6 p7 tp q pos : Pos} {Q : Value → Shared → Prop} (hh : A.handled = none) (x : LS prog w s₁ m cm s)
    (ht : cm (Str.ofString "told") = some (.ref T)) (hg : cm (Str.ofString "ranges") = some (.ref G)) (hT : TLs s.heap T (fun i => td (X i)) 8) (hG : RGs s.heap G l) (hl8 : l.length ≤ 8) (hlt : ∀ p ∈ l, p.1 < 8 ∧ p.2 < 8)
    (hnm : (nm = Str.ofString "first" ∧ pick = Prod.fst) ∨ (nm = Str.ofString "behind" ∧ pick = Prod.snd))
    (h : ∀ ys s' D, Kg s s' → s'.heap.IsList D ys.toArray → All2 (PT X s'.heap) (l.map fun p => (pick p, sg)) ys → Q (.ref D) s') :
    wpAny (model prog w) A (eval (.ListComp (.List [.Subscript (.Name (Str.ofString "told") p1) (.Name nm p2) p3, .Constant (.str sg) 0 p4] p5) [⟨.Tuple [.Name (Str.ofString "first") p6, .Name (Str.ofString "behind") p7] 0 tp, .Name (Str.ofString "ranges") q, [], 0⟩] scP pos) (lEnv s₁.heap.objs.size pm cd)) Q E s := by
  obtain ⟨vs, hlG, hvn, hvi⟩ := rgs_size hG
  refine lcA (cl := [(Str.ofString "told", s₁.heap.objs.size + 3)]) rfl rfl (by decide +kernel) hh ?_
  refine x.nm hg (c := s₁.heap.objs.size + 4) rfl rfl ⟨G, _, rfl, hlG, by rw [List.size_toArray, hvn, sizeLine_eq]; omega, fun _ => true, fun i y h => ∃ p, l[i]? = some p ∧ ∃ b c t us, y = .ref b ∧ @LE.le Nat _ (s.heap.objs.size + 3) b ∧ @LT.lt Nat _ c s.heap.objs.size ∧ h.IsList b #[.ref c, .str sg t] ∧ h.IsList c us ∧ Holds2 us.toList (td (X (pick p))), ?_, ?_, ?_⟩
  · rintro i y h h' ⟨p, hp, b, c, t, us, e, hb, hc, lb, lc, hu⟩ k
    exact ⟨p, hp, b, c, t, us, e, hb, hc, k _ _ (.inr hb) lb, k _ _ (.inl hc) lc, hu⟩
  · refine turnT (sets2 (PP := fun i va vb => ∃ p t u, l[i]? = some p ∧ va = .int (p.1 : Nat) t ∧ vb = .int (p.2 : Nat) u) hh rfl rfl (by decide) rfl fun i v hv => ?_) fun i s' hi kg hN hown E' => ifs0 ⟨Kg.refl, rfl, fun _ => ?_⟩
    · obtain ⟨p, b, t, u, hp, e, hb⟩ := hvi i v (by simpa using hv)
      exact ⟨b, _, _, e, hb, p, t, u, hp, rfl, rfl⟩
    obtain ⟨va, vb, mm, ⟨p, t, u, hp, rfl, rfl⟩, hn, hm1, hm2⟩ := hN
    have x' := x.kg kg
    have T' := kg.lk.tls hT
    have hlp := hlt p (List.mem_of_getElem? hp)
    have lt2 := hown.lt
    have key : ∃ tt, mm nm = some (.int (pick p : Nat) tt) ∧ pick p < 8 ∧ (cE scP [(Str.ofString "told", s₁.heap.objs.size + 3)] s.heap.objs.size (lEnv s₁.heap.objs.size pm cd)).kindOf nm = some .local ∧ (nm == ("__debug__" : Str)) = false := by
      rcases hnm with ⟨rfl, rfl⟩ | ⟨rfl, rfl⟩
      · exact ⟨t, hm1, hlp.1, rfl, by decide⟩
      · exact ⟨u, hm2, hlp.2, rfl, by decide⟩
    obtain ⟨tt, hmn, hp8, hkn, hdn⟩ := key
    obtain ⟨tv, tl, tn, ti⟩ := hT
    obtain ⟨c, us, ec, lc, hu⟩ := ti _ hp8
    have clt : @LT.lt Nat _ c s.heap.objs.size := by obtain ⟨o, e, _⟩ := lc; exact Heap.lt_size e
    refine wpAny_List (wpAny_items_cons (sub_ (x'.nm ht (c := s₁.heap.objs.size + 3) rfl rfl (nmL hn hmn (item_list (kg.list tl) (by omega) (by omega) (by simpa using ec) ?_) rfl hkn hdn))))
    refine wpAny_items_cons (wpAny_Constant_str (wpAny_items_nil ⟨by size_fits, ?_⟩))
    refine ⟨⟨fun b o e => Heap.get?_push_of_some _ e, rfl, fun q => q⟩, p, hp, _, c, _, us, rfl, lt2, clt, ⟨_, Heap.get?_push_size _ rfl, rfl, _, rfl⟩, ?_, hu⟩
    exact Heap.IsList.push (kg.list lc) _
  · intro ys s' D M
    refine h ys s' D M.kg M.list ?_
    refine All2.map_left ((all2_all (by rw [List.size_toArray, hvn]) M.all).mono fun p y q => ?_)
    obtain ⟨b, c, t, us, e, _, _, lb, lc, hu⟩ := q
    exact ⟨b, c, t, us, e, lb, lc, hu⟩

/-- the points of the law -/
def ptsL (l : List (Nat × Nat)) : List (Nat × Str) := (l.map fun p => (p.2, Str.ofString ")")) ++ l.map fun p => (p.1, Str.ofString "(")

theorem rngs_lt {X : Nat → Int} : ∀ p ∈ rngs X, p.1 < 8 ∧ p.2 < 8 := by
  intro p hp
  unfold rngs at hp
  obtain ⟨i, hi, rfl⟩ := List.mem_map.mp hp
  have : i < 3 := by unfold idx at hi; exact List.mem_range.mp (List.mem_filter.mp hi).1
  unfold rg
  split <;> constructor <;> simp <;> omega
theorem rngs_len {X : Nat → Int} : (rngs X).length ≤ 3 := by
  unfold rngs idx
  rw [List.length_map]
  exact Nat.le_trans (List.length_filter_le _ _) (by simp)

set_option maxHeartbeats 2000000 in
theorem law6 {T G : Addr} {X : Nat → Int} {Q : Flow → Shared → Prop} (hh : A.handled = none) (x : LS prog w s₁ m cm s)
    (ht : cm (Str.ofString "told") = some (.ref T)) (hg : cm (Str.ofString "ranges") = some (.ref G)) (hT : TLs s.heap T (fun i => td (X i)) 8) (hG : RGs s.heap G (rngs X))
    (h : ∀ D s', LS prog w s₁ (fun y => if y = Str.ofString "points" then some (.ref D) else m y) cm s' → Lk s.heap s'.heap → PTs X s'.heap D (ptsL (rngs X)) → Q .next s') :
    wpAny (model prog w) A (exec (lS 6) (lEnv s₁.heap.objs.size pm cd)) Q E s := by
  have l3 := rngs_len (X := X)
  refine wpAny_Assign_Name (wpAny_BinOp ?_)
  refine pts_comp (l := rngs X) (X := X) (pick := Prod.snd) hh x ht hg hT hG (by omega) rngs_lt (.inr ⟨rfl, rfl⟩) fun ys s₂ D k₂ l₂ a₂ => ?_
  have x₂ := x.kg k₂
  refine pts_comp (l := rngs X) (X := X) (pick := Prod.fst) hh x₂ ht hg (k₂.lk.tls hT) (k₂.lk.rgs hG) (by omega) rngs_lt (.inl ⟨rfl, rfl⟩) fun zs s₃ D' k₃ l₃ a₃ => ?_
  have n2 := a₂.length
  have n3 := a₃.length
  rw [List.length_map] at n2 n3
  refine addL (k₃.list l₂) l₃ (by rw [List.size_toArray, List.size_toArray, ← n2, ← n3, sizeLine_eq]; omega) ?_
  have k₄ : Kg s₃ { s₃ with heap := s₃.heap.push { cls := .type "list", data := .seq (ys.toArray ++ zs.toArray) } } := ⟨fun b o e => Heap.get?_push_of_some _ e, rfl, fun q => q⟩
  have x₄ := (x₂.kg k₃).kg k₄
  refine x₄.store rfl fun s₅ x₅ sb₅ => ?_
  have lk₅ := lk_same (noSeq_ns x₄.ns) sb₅
  have lk2 : Lk s₂.heap s₅.heap := (k₃.lk.trans k₄.lk).trans lk₅
  have lk3 : Lk s₃.heap s₅.heap := k₄.lk.trans lk₅
  have hL : (s₃.heap.push { cls := .type "list", data := .seq (ys.toArray ++ zs.toArray) }).IsList s₃.heap.objs.size (ys.toArray ++ zs.toArray) := ⟨_, Heap.get?_push_size _ rfl, rfl, _, rfl⟩
  have e : ys.toArray ++ zs.toArray = (ys ++ zs).toArray := by simp
  refine h _ s₅ x₅ (k₂.lk.trans lk2) ⟨ys ++ zs, lk₅ _ _ trivial (e ▸ hL), ?_⟩
  exact (a₂.mono fun p v q => lk2.pt q).append (a₃.mono fun p v q => lk3.pt q)
end
end Mine
end

section
open PySem PySem.W PyProof.Rows PySem.SeqAt PySem.Calls
set_option Elab.async false
set_option maxRecDepth 100000
namespace Mine

/-! What the sort's questions come to, when they are answered by numbers. -/

def Kw {α : Type} (n : Nat) (R : Nat → Int) : KasT α → (α → Prop) → Prop
  | .ret a, Q => Q a
  | .ask i j k, Q => i < n ∧ j < n ∧ Kw n R (k (decide (R i < R j))) Q

theorem Kw.bind {α β : Type} {N : Nat} {R : Nat → Int} {f : α → KasT β} {Q : β → Prop} : ∀ {t : KasT α}, Kw N R t (fun a => Kw N R (f a) Q) → Kw N R (t.bind f) Q
  | .ret _, h => h
  | .ask _ _ _, ⟨h1, h2, h3⟩ => ⟨h1, h2, Kw.bind h3⟩
theorem Kw.mono {α : Type} {N : Nat} {R : Nat → Int} {Q Q' : α → Prop} (hq : ∀ a, Q a → Q' a) : ∀ {t : KasT α}, Kw N R t Q → Kw N R t Q'
  | .ret a, h => hq a h
  | .ask _ _ _, ⟨h1, h2, h3⟩ => ⟨h1, h2, Kw.mono hq h3⟩
theorem Kw.wp {α : Type} {N : Nat} {R : Nat → Int} {cmp : Nat → Nat → (Bool → Shared → Prop) → Shared → Prop} {G : α → Shared → Prop} {s : Shared} (hc : ∀ i j (C : Bool → Shared → Prop), i < N → j < N → C (decide (R i < R j)) s → cmp i j C s) :
    ∀ {t : KasT α}, Kw N R t (fun a => G a s) → t.kasWp cmp G s
  | .ret _, h => h
  | .ask i j k, ⟨h1, h2, h3⟩ => hc i j _ h1 h2 (Kw.wp (t := k (decide (R i < R j))) hc h3)

def PB (N : Nat) (p : Array Nat) : Prop := p.toList.Perm (List.range N)
def kR (R : Nat → Int) (p : Array Nat) (k : Nat) : Int := R (p.getD k 0)
def srt (R : Nat → Int) (p : Array Nat) (k : Nat) : Prop := ∀ i j, i ≤ j → j < k → kR R p i ≤ kR R p j
def nin (R : Nat → Int) (p : Array Nat) (k : Nat) : Prop := ∀ i j, i ≤ j → j < k → kR R p j ≤ kR R p i

section
variable {N : Nat} {R : Nat → Int} {p : Array Nat}
theorem PB.size (h : PB N p) : p.size = N := by have := h.length_eq; simpa using this
theorem PB.lt (h : PB N p) {k : Nat} (hk : k < N) : p.getD k 0 < N := by
  have hs : k < p.size := by rw [h.size]; exact hk
  have e : p.getD k 0 = p[k] := by simp [Array.getD, hs]
  rw [e]
  have : p[k] ∈ p.toList := by simp
  exact List.mem_range.mp (h.mem_iff.mp this)
theorem PB.of {q : Array Nat} (h : PB N p) (hq : q.Perm p) : PB N q := (Array.perm_iff_toList_perm.mp hq).trans h
theorem PB.rev (h : PB N p) (i j : Nat) : PB N (kas_rev p i j) := h.of (mirror_perm _ _ _ _)
theorem PB.bub (h : PB N p) (i j : Nat) : PB N (bubble p i j) := h.of (bubble_perm _ _ _)

theorem kR_congr {q : Array Nat} {i j : Nat} (h : p[i]? = q[j]?) : kR R p i = kR R q j := by
  unfold kR; rw [Array.getD_eq_getD_getElem?, Array.getD_eq_getD_getElem?, h]
theorem kR_bubble {src d : Nat} (hs : src < p.size) (hd : d ≤ src) (k : Nat) :
    kR R (bubble p src d) k = if k = src - d then kR R p src else if src - d < k ∧ k ≤ src then kR R p (k - 1) else kR R p k := by
  have e := getElem?_bubble hs d hd k
  by_cases h1 : k = src - d
  · rw [if_pos h1] at e ⊢; exact kR_congr e
  · rw [if_neg h1] at e ⊢
    by_cases h2 : src - d < k ∧ k ≤ src
    · rw [if_pos h2] at e ⊢; exact kR_congr e
    · rw [if_neg h2] at e ⊢; exact kR_congr e
theorem kR_rev {i j : Nat} (hj : j ≤ p.size) (k : Nat) : kR R (kas_rev p i j) k = if i ≤ k ∧ k < j then kR R p (i + j - 1 - k) else kR R p k := by
  have e := getElem?_mirror_all (xs := p) (i := i) hj k
  unfold kas_rev
  by_cases h1 : i ≤ k ∧ k < j
  · rw [if_pos h1] at e ⊢; exact kR_congr e
  · rw [if_neg h1] at e ⊢; exact kR_congr e
theorem kR_rev_equal {i j : Nat} (hj : j ≤ p.size) (heq : ∀ k, i ≤ k → k < j → kR R p k = kR R p (j - 1)) (k : Nat) : kR R (kas_rev p i j) k = kR R p k := by
  rw [kR_rev hj]
  split
  · rw [heq _ (by omega) (by omega), heq k (by omega) (by omega)]
  · rfl

theorem asc_kw (hp : PB N p) : ∀ (f n : Nat), 1 ≤ n → n + f ≤ N → srt R p n → Kw N R (kas_asc p f n) (fun m => n ≤ m ∧ m ≤ n + f ∧ srt R p m ∧ (m = n + f ∨ kR R p m < kR R p (m - 1)))
  | 0, n, _, _, hs => ⟨Nat.le_refl _, Nat.le_refl _, hs, .inl rfl⟩
  | f + 1, n, h1, hn, hs => by
    refine ⟨hp.lt (by omega), hp.lt (by omega), ?_⟩
    by_cases hc : R (p.getD n 0) < R (p.getD (n - 1) 0)
    · rw [decide_eq_true hc]; simp only [if_true]
      exact ⟨Nat.le_refl _, by omega, hs, .inr hc⟩
    · rw [decide_eq_false hc]; simp only [Bool.false_eq_true, if_false]
      have hs' : srt R p (n + 1) := fun i j hij hj => by
        by_cases h2 : j < n
        · exact hs i j hij h2
        · have : j = n := by omega
          subst this
          by_cases h3 : i = j
          · subst h3; exact Int.le_refl _
          · have a := hs i (j - 1) (by omega) (by omega)
            have b : kR R p (j - 1) ≤ kR R p j := Int.not_lt.mp hc
            omega
      refine (asc_kw hp f (n + 1) (by omega) (by omega) hs').mono fun m ⟨a, b, c, d⟩ => ⟨by omega, by omega, c, ?_⟩
      rcases d with d | d
      · exact .inl (by omega)
      · exact .inr d

/-- behind the falling part -/
def DescOk (N : Nat) (R : Nat → Int) (n t : Nat) (r : Array Nat × Nat × Nat) : Prop :=
  PB N r.1 ∧ n ≤ r.2.1 ∧ r.2.1 ≤ t ∧ nin R r.1 r.2.1 ∧ r.2.2 + 1 ≤ r.2.1 ∧ ∀ i, r.2.1 - (r.2.2 + 1) ≤ i → i < r.2.1 → kR R r.1 i = kR R r.1 (r.2.1 - 1)

theorem desc_kw : ∀ (f : Nat) (p : Array Nat) (n q : Nat), PB N p → 1 ≤ n → n + f ≤ N → nin R p n → q + 1 ≤ n → (∀ i, n - (q + 1) ≤ i → i < n → kR R p i = kR R p (n - 1)) → Kw N R (kas_desc f p n q) (DescOk N R n (n + f))
  | 0, p, n, q, hp, _, _, hs, hq, he => ⟨hp, Nat.le_refl _, Nat.le_refl _, hs, hq, he⟩
  | f + 1, p, n, q, hp, h1, hn, hs, hq, he => by
    refine ⟨hp.lt (by omega), hp.lt (by omega), ?_⟩
    have up : ∀ {r : Array Nat × Nat × Nat}, DescOk N R (n + 1) (n + 1 + f) r → DescOk N R n (n + (f + 1)) r := fun ⟨a, b, c, d⟩ => ⟨a, by omega, by omega, d⟩
    by_cases hc : R (p.getD n 0) < R (p.getD (n - 1) 0)
    · rw [decide_eq_true hc]; simp only [if_true]
      have hc' : kR R p n < kR R p (n - 1) := hc
      have hs' : nin R p (n + 1) := fun i j hij hj => by
        by_cases h2 : j < n
        · exact hs i j hij h2
        · have : j = n := by omega
          subst this
          by_cases h3 : i = j
          · subst h3; exact Int.le_refl _
          · have a := hs i (j - 1) (by omega) (by omega)
            omega
      split
      · have same := kR_rev_equal (R := R) (p := p) (i := n - (q + 1)) (j := n) (by rw [hp.size]; omega) he
        refine (desc_kw f _ (n + 1) 0 (hp.rev _ _) (by omega) (by omega) (fun i j a b => ?_) (by omega) fun i a b => ?_).mono fun r h => up h
        · rw [same, same]; exact hs' i j a b
        · have : i = n + 1 - 1 := by omega
          rw [this]
      · refine (desc_kw f p (n + 1) 0 hp (by omega) (by omega) hs' (by omega) fun i a b => ?_).mono fun r h => up h
        have : i = n + 1 - 1 := by omega
        rw [this]
    · rw [decide_eq_false hc]; simp only [Bool.false_eq_true, if_false]
      refine ⟨hp.lt (by omega), hp.lt (by omega), ?_⟩
      by_cases hd : R (p.getD (n - 1) 0) < R (p.getD n 0)
      · rw [decide_eq_true hd]; simp only [if_true]
        exact ⟨hp, Nat.le_refl _, by show n ≤ n + (f + 1); omega, hs, hq, he⟩
      · rw [decide_eq_false hd]; simp only [Bool.false_eq_true, if_false]
        have e : kR R p n = kR R p (n - 1) := Int.le_antisymm (Int.not_lt.mp hd) (Int.not_lt.mp hc)
        refine (desc_kw f p (n + 1) (q + 1) hp (by omega) (by omega) (fun i j hij hj => ?_) (by omega) fun i a b => ?_).mono fun r h => up h
        · by_cases h2 : j < n
          · exact hs i j hij h2
          · have : j = n := by omega
            subst this
            by_cases h3 : i = j
            · subst h3; exact Int.le_refl _
            · have a := hs i (j - 1) (by omega) (by omega)
              omega
        · rw [show n + 1 - 1 = n by omega]
          by_cases h3 : i = n
          · rw [h3]
          · rw [he i (by omega) (by omega), e]

def CountOk (N : Nat) (R : Nat → Int) (r : Nat × Array Nat) : Prop := PB N r.2 ∧ 1 ≤ r.1 ∧ r.1 ≤ N ∧ srt R r.2 r.1

theorem tail3_kw (hp : PB N p) {n : Nat} (h1 : 1 ≤ n) (hn : n ≤ N) (hs : nin R p n) : Kw N R (kas_tail3 n N p) (CountOk N R) := by
  unfold kas_tail3
  have hs' : srt R (kas_rev p 0 n) n := fun i j hij hj => by
    rw [kR_rev (by rw [hp.size]; exact hn), kR_rev (by rw [hp.size]; exact hn), if_pos ⟨by omega, by omega⟩, if_pos ⟨by omega, by omega⟩]
    exact hs _ _ (by omega) (by omega)
  refine Kw.bind ((asc_kw (hp.rev 0 n) (N - n) n h1 (by omega) hs').mono fun m ⟨a, b, c, _⟩ => ?_)
  exact ⟨hp.rev 0 n, by show 1 ≤ m; omega, by show m ≤ N; omega, c⟩

theorem descPart_kw (hp : PB N p) {n : Nat} (hn : n + 1 ≤ N) (hs : nin R p (n + 1)) : Kw N R (kas_descPart n N p) (CountOk N R) := by
  unfold kas_descPart
  refine Kw.bind ((desc_kw (N - (n + 1)) p (n + 1) 0 hp (by omega) (by omega) hs (by omega) fun i a b => ?_).mono fun r ⟨a, b, c, d, e, f⟩ => ?_)
  · have : i = n + 1 - 1 := by omega
    rw [this]
  · split
    · have same := kR_rev_equal (R := R) (p := r.1) (i := r.2.1 - (r.2.2 + 1)) (j := r.2.1) (by rw [a.size]; omega) f
      exact tail3_kw (a.rev _ _) (by omega) (by omega) fun i j x y => by rw [same, same]; exact d i j x y
    · exact tail3_kw a (by omega) (by omega) d

theorem count_kw (hp : PB N p) (h1 : 1 ≤ N) : Kw N R (kas_count N p) (CountOk N R) := by
  unfold kas_count
  refine Kw.bind ((asc_kw hp (N - 1) 1 (Nat.le_refl _) (by omega) fun i j a b => ?_).mono fun n ⟨a, b, c, d⟩ => ?_)
  · have : i = j := by omega
    subst this; exact Int.le_refl _
  · by_cases hn : n = N
    · rw [if_pos (by simpa using hn)]
      exact ⟨hp, by show 1 ≤ n; omega, by show n ≤ N; omega, c⟩
    · rw [if_neg (by simpa using hn)]
      have hlt : kR R p n < kR R p (n - 1) := d.resolve_left (by omega)
      split
      · refine ⟨hp.lt (by omega), hp.lt (by omega), ?_⟩
        by_cases hc : R (p.getD 0 0) < R (p.getD (n - 1) 0)
        · rw [decide_eq_true hc]; simp only [if_true]
          exact ⟨hp, by show 1 ≤ n; omega, by show n ≤ N; omega, c⟩
        · rw [decide_eq_false hc]; simp only [Bool.false_eq_true, if_false]
          have hc' : kR R p (n - 1) ≤ kR R p 0 := Int.not_lt.mp hc
          have eqs : ∀ k, 0 ≤ k → k < n → kR R p k = kR R p (n - 1) := fun k _ hk => by
            have x1 := c 0 k (by omega) hk
            have x2 := c k (n - 1) (by omega) (by omega)
            omega
          have same := kR_rev_equal (R := R) (p := p) (i := 0) (j := n) (by rw [hp.size]; omega) eqs
          refine descPart_kw (hp.rev 0 n) (by omega) fun i j hij hj => ?_
          rw [same, same]
          by_cases h2 : j < n
          · rw [eqs i (by omega) (by omega), eqs j (by omega) h2]; exact Int.le_refl _
          · have : j = n := by omega
            subst this
            by_cases h3 : i = j
            · subst h3; exact Int.le_refl _
            · rw [eqs i (by omega) (by omega)]; omega
      · have : n = 1 := by omega
        subst this
        refine descPart_kw hp (by omega) fun i j hij hj => ?_
        have : (i = 0 ∧ j = 0) ∨ (i = 0 ∧ j = 1) ∨ (i = 1 ∧ j = 1) := by omega
        rcases this with ⟨rfl, rfl⟩ | ⟨rfl, rfl⟩ | ⟨rfl, rfl⟩
        · exact Int.le_refl _
        · exact Int.le_of_lt hlt
        · exact Int.le_refl _

theorem place_kw (hp : PB N p) {k : Nat} (hk : k < N) (hs : srt R p k) : ∀ (f l r : Nat), l ≤ r → r ≤ k → r - l ≤ f → (∀ i, i < l → kR R p i ≤ kR R p k) → (∀ i, r ≤ i → i < k → kR R p k < kR R p i) →
    Kw N R (kas_place p k f l r) (fun l => l ≤ k ∧ (∀ i, i < l → kR R p i ≤ kR R p k) ∧ ∀ i, l ≤ i → i < k → kR R p k < kR R p i)
  | 0, l, r, hlr, hrk, hf, hlo, hhi => by
    have : l = r := by omega
    subst this
    exact ⟨hrk, hlo, hhi⟩
  | f + 1, l, r, hlr, hrk, hf, hlo, hhi => by
    unfold kas_place
    split
    · have : l = r := by omega
      subst this
      exact ⟨hrk, hlo, hhi⟩
    · refine ⟨hp.lt hk, hp.lt (by omega), ?_⟩
      by_cases hc : R (p.getD k 0) < R (p.getD ((l + r) / 2) 0)
      · rw [decide_eq_true hc]; simp only [if_true]
        have hc' : kR R p k < kR R p ((l + r) / 2) := hc
        refine place_kw hp hk hs f l ((l + r) / 2) (by omega) (by omega) (by omega) hlo fun i h1 h2 => ?_
        have := hs _ i h1 h2
        omega
      · rw [decide_eq_false hc]; simp only [Bool.false_eq_true, if_false]
        have hc' : kR R p ((l + r) / 2) ≤ kR R p k := Int.not_lt.mp hc
        refine place_kw hp hk hs f ((l + r) / 2 + 1) r (by omega) (by omega) (by omega) (fun i hi => ?_) hhi
        have := hs i ((l + r) / 2) (by omega) (by omega)
        omega

theorem bin_kw : ∀ (f : Nat) (p : Array Nat) (k : Nat), PB N p → k + f = N → srt R p k → Kw N R (kas_bin f p k) (fun p => PB N p ∧ srt R p N)
  | 0, p, k, hp, hk, hs => by
    have : k = N := by omega
    subst this
    exact ⟨hp, hs⟩
  | f + 1, p, k, hp, hk, hs => by
    unfold kas_bin
    refine Kw.bind ((place_kw hp (by omega) hs k 0 k (by omega) (Nat.le_refl _) (by omega) (fun i hi => by omega) fun i h1 h2 => by omega).mono fun l ⟨hl, hlo, hhi⟩ => ?_)
    refine bin_kw f _ (k + 1) (hp.bub _ _) (by omega) fun i j hij hj => ?_
    have sz : k < p.size := by rw [hp.size]; omega
    rw [kR_bubble sz (by omega), kR_bubble sz (by omega)]
    have e : k - (k - l) = l := by omega
    rw [e]
    by_cases i1 : i = l
    · rw [if_pos i1]
      by_cases j1 : j = l
      · rw [if_pos j1]; exact Int.le_refl _
      · rw [if_neg j1, if_pos ⟨by omega, by omega⟩]
        exact Int.le_of_lt (hhi (j - 1) (by omega) (by omega))
    · rw [if_neg i1]
      by_cases i2 : l < i ∧ i ≤ k
      · rw [if_pos i2, if_neg (by omega), if_pos ⟨by omega, by omega⟩]
        exact hs _ _ (by omega) (by omega)
      · rw [if_neg i2]
        by_cases j1 : j = l
        · rw [if_pos j1]; exact hlo i (by omega)
        · rw [if_neg j1]
          by_cases j2 : l < j ∧ j ≤ k
          · rw [if_pos j2]; exact hs _ _ (by omega) (by omega)
          · rw [if_neg j2]; exact hs _ _ hij (by omega)

theorem sort_kw (h1 : 1 ≤ N) : Kw N R (kas_sort N) (fun p => PB N p ∧ srt R p N) := by
  unfold kas_sort
  have hp : PB N (List.toArray (List.range N)) := by unfold PB; exact List.Perm.refl _
  refine Kw.bind ((count_kw hp h1).mono fun r ⟨a, b, c, d⟩ => ?_)
  split
  · exact bin_kw _ _ _ a (by omega) fun i j x y => d i j x (by omega)
  · have : r.1 = N := by omega
    exact ⟨a, this ▸ d⟩
end
end Mine
end

section
open PySem PySem.W PyProof.Rows PySem.SeqAt PySem.Calls
set_option Elab.async false
set_option maxRecDepth 100000
namespace Mine

def lamParams : Arguments := { posonlyargs := [], args := [{ arg := Str.ofString "point", annotation := none, pos := ⟨76, 37, 76, 42⟩ }], vararg := none, kwonlyargs := [], kw_defaults := [], kwarg := none, defaults := [] }
def lamBody : Expr := .Subscript (.Name (Str.ofString "point") ⟨76, 44, 76, 49⟩) (.Constant (.int 0) 0 ⟨76, 50, 76, 51⟩) ⟨76, 44, 76, 52⟩
def lamScope : Scope := { kind := .function, names := [(Str.ofString "point", .local)], isGenerator := false, isCoroutine := false, more := [] }

section
variable {prog : Program} {w : World} {A : Around} {E : Value → Shared → Prop} {s : Shared}

/-- the key of a point -/
theorem lam_call {f c' b : Addr} {name qual : Str} {pm ctv x y : Value} {Q : Value → Shared → Prop} (hroom : A.depth < recursionLimit) (ho : s.heap.get? f = some (kla_obj name qual lamParams lamBody lamScope [] pm c' ctv)) (hcd : s.heap.CodeRec (.ref c') qual) (lim : s.heap.NoLimit)
    (hl : s.heap.IsList b #[x, y]) (h : ∀ s', Kg s s' → Q x s') : wpAny (model prog w) A (call (.ref f) [.ref b]) Q E s := by
  refine wpAny_call (kla_callFunE hroom ho rfl rfl rfl rfl hcd (wpAny_of_eq (a := [(Str.ofString "point", .ref b)]) rfl ?_))
  refine wpAny_newFunctionEnv (by intro z hz; simp [lamScope] at hz; subst hz; decide) (by intro z hz; simp at hz; subst hz; rfl) (fun h₁ hns hsb => ⟨lim.fresh _ hsb, kla_codeExpr ?_⟩) rfl
  have k₁ : ∀ b o, s.heap.get? b = some o → h₁.get? b = some o := fun b o e => hsb.extBut b o (Nat.ne_of_lt (Heap.lt_size e)) (Heap.get?_push_of_some _ e)
  refine sub_ (nmL (m := fun x => [(Str.ofString "point", Value.ref b)].reverse.lookup x) (v := .ref b) hns rfl (wpAny_Constant_int ?_))
  refine item_list (items := #[x, y]) (let ⟨o, e, r⟩ := hl; ⟨o, k₁ _ o e, r⟩) (by decide) (by decide) rfl ?_
  exact h _ ⟨k₁, rfl, fun q => q⟩

/-- one question of the sort -/
theorem lt_lists {l b : Addr} {vs us : Array Value} {as bs : List TV} {r : Bool} {Q : Bool → Shared → Prop} (hl : s.heap.IsList l vs) (hb : s.heap.IsList b us) (ha : Holds2 vs.toList as) (hbs : Holds2 us.toList bs) (hr : lexC false as bs = some r) (hu : A.units < cLine) (h : Q r s) :
    wpAny (model prog w) A (keyLt' oneType' (.ref l) (.ref b)) Q E s := by
  obtain ⟨⟨c1, d1, dt1, sl1⟩, hol, hcl, n, hdl⟩ := id hl
  obtain ⟨⟨c2, d2, dt2, sl2⟩, hob, hcb, n2, hdb⟩ := id hb
  dsimp only at hcl hdl hcb hdb
  subst hcl hdl hcb hdb
  rw [keyLt'_oneType, oneLt'_eq]
  simp only [if_true]
  refine wpAny_bind (wpAny_cRoomFor hu ?_)
  refine wpAny_bind (wpAny_callSpecialIfBound?_slot hl.typeIs F.slot_list_lt ?_)
  refine call_meets F.slot_list_lt hl.typeIs F.entry_list_lt (F.args_list_lt_2 _ _) (list_ordM l b vs us n n2 d1 d2 sl1 sl2 r ha hbs hr) ⟨hol, hob, ?_⟩
  show wpAny _ _ (truthOfDropped (.bool r)) _ _ _
  exact wpAny_truthy_bool h
end

/-- all that stands, but for one frame -/
noncomputable def ledger (h : Heap) (L : Nat) : List (Addr × Obj) := (List.range h.objs.size).filterMap fun b => if b = L then none else (h.get? b).map fun o => (b, o)
theorem ledger_mem {h : Heap} {L : Nat} {b : Nat} {o : Obj} : (b, o) ∈ ledger h L ↔ b ≠ L ∧ h.get? b = some o := by
  unfold ledger
  rw [List.mem_filterMap]
  constructor
  · rintro ⟨c, _, hc⟩
    split at hc
    · cases hc
    · rename_i hne
      cases hg : h.get? c with
      | none => rw [hg] at hc; cases hc
      | some o' =>
        rw [hg] at hc
        cases hc
        exact ⟨hne, hg⟩
  · rintro ⟨hne, hg⟩
    exact ⟨b, List.mem_range.mpr (Heap.lt_size hg), by rw [if_neg hne, hg]; rfl⟩
def noHeap (h : Heap) : Heap := { h with objs := #[] }
theorem noHeap_get (h : Heap) (b : Addr) : (noHeap h).get? b = none := Heap.get?_none_of_le (Nat.zero_le _)

section
variable {prog : Program} {w : World} {A : Around} {E : Value → Shared → Prop} {s : Shared}

/-- what the sort has made -/
structure SortedOut (R : Nat → Int) (vs out : List Value) : Prop where
  ex : ∃ p : Array Nat, PB vs.length p ∧ srt R p vs.length ∧ out = p.toList.map fun i => vs.getD i Value.none

set_option maxHeartbeats 2000000 in
theorem sortedP {TD : Nat → List TV} {l f L : Nat} {vs : List Value} {R : Nat → Int} {m : Str → Option Value} {name qual : Str} {pm ctv : Value} {c' : Addr} {Q : Value → Shared → Prop} (hroom : A.depth + 5 < recursionLimit) (hu : A.units + 8 < cLine)
    (hL : s.heap.Ns L m) (hl : s.heap.IsList l vs.toArray) (h2 : 2 ≤ vs.length) (h64 : vs.length < 64) (lim : s.heap.NoLimit) (hcsL : L ≠ cStatics)
    (ho : s.heap.get? f = some (kla_obj name qual lamParams lamBody lamScope [] pm c' ctv)) (hcd : s.heap.CodeRec (.ref c') qual) (hcL : c' ≠ L)
    (hpt : ∀ (i : Nat) (v : Value), vs[i]? = some v → ∃ b c t us, v = .ref b ∧ s.heap.IsList b #[.ref c, t] ∧ s.heap.IsList c us ∧ Holds2 us.toList (TD i)) (hlex : ∀ i j, lexC false (TD i) (TD j) = some (decide (R i < R j)))
    (h : ∀ D out s', (∀ b o, b ≠ L → s.heap.get? b = some o → s'.heap.get? b = some o) → s'.heap.Ns L m → s'.os = s.os → (AllBare s.gens → AllBare s'.gens) → s'.heap.IsList D out.toArray → SortedOut R vs out → Q (.ref D) s') :
    wpAny (model prog w) A (call (.builtin "sorted") [.ref l] [(Str.ofString "key", .ref f)]) Q E s := by
  have F : Fr (noHeap s.heap) L s.heap m := ⟨hL, fun b o e => (by rw [noHeap_get] at e; cases e), Nat.zero_le _⟩
  have N : News (noHeap s.heap) L s.heap (ledger s.heap L) := fun p hp => by
    obtain ⟨b, o⟩ := p
    obtain ⟨h1, h2⟩ := ledger_mem.mp hp
    exact ⟨h2, h1, noHeap_get _ _⟩
  refine kat_sortedK (b := false) (f := .ref f) F N hl h2 h64 (ksk_s1 _ _) (fun x => ksk_l1 _ _) (fun x => ksk_t1 _ _) fun D kS e1 h' F' N' hDk hqD => ?_
  -- from a ledger: everything is kept
  have keepOf : ∀ {h'' : Heap} {pre : List (Addr × Obj)}, News (noHeap s.heap) L h'' (pre ++ ledger s.heap L) → ∀ b o, @Ne Nat b L → s.heap.get? b = some o → h''.get? b = some o := fun {h'' pre} N b o hb e =>
    (N (b, o) (List.mem_append_right _ (ledger_mem.mpr ⟨hb, e⟩))).1
  have listOf' : ∀ {h'' : Heap} {pre : List (Addr × Obj)}, News (noHeap s.heap) L h'' (pre ++ ledger s.heap L) → ∀ {b : Nat} {us : Array Value}, s.heap.IsList b us → h''.IsList b us := fun {h'' pre} N {b us} hl => by
    obtain ⟨o, e, r⟩ := hl
    refine ⟨o, keepOf N b o (fun q => ?_) e, r⟩
    subst q
    obtain ⟨o', es, ep, e', d, _⟩ := hL
    rw [e] at e'; cases e'
    obtain ⟨_, n, d'⟩ := r
    rw [d] at d'; cases d'
  have apart : ∀ q ∈ ledger s.heap L, q.1 ≠ kS := fun q hq => Nat.ne_of_lt (Nat.lt_trans (hqD q hq) hDk)
  have apartD : ∀ q ∈ ledger s.heap L, q.1 ≠ D := fun q hq => Nat.ne_of_lt (hqD q hq)
  have hDne : D ≠ kS := Nat.ne_of_lt hDk
  -- the keys
  have keys : ∀ (r ks : List Value) (e : Nat) (s' : Shared), ks.length + r.length = vs.length → vs.drop ks.length = r → (∀ (i : Nat) (k : Value), ks[i]? = some k → ∃ v b c t, vs[i]? = some v ∧ v = .ref b ∧ s.heap.IsList b #[.ref c, t] ∧ k = .ref c) →
      s'.os = s.os → (AllBare s.gens → AllBare s'.gens) → Fr (noHeap s.heap) L s'.heap m → News (noHeap s.heap) L s'.heap ((kS, seqObj "list" (List.toArray ks) e) :: (D, seqObj "list" #[] e1) :: ledger s.heap L) →
      KatKeys prog w A.in1.in1 (noHeap s.heap) L m kS (.ref f) (fun ks e s' => wpAny (model prog w) A.in1.in1 (keyKind' (List.toArray ks)) (fun κ s'' => (kas_sort vs.length).kasWp (kas_ask prog w A.in1.in1 κ (katRev false ks)) (fun p s3 => KatFin (noHeap s.heap) L m kS D ks e e1 (katRev false (p.toList.map fun i => (katRev false vs).getD i Value.none)) (fun s4 => Q (.ref D) s4) s3) s'') (fun _ _ => False) s') r ks e s' := by
    intro r
    induction r with
    | nil =>
      intro ks e s' hlen hdrop hks hos hbare F1 N1
      refine KatKeys.nil ?_
      have hn : ks.length = vs.length := by simpa using hlen
      have N1' : News (noHeap s.heap) L s'.heap ([(kS, seqObj "list" (List.toArray ks) e), (D, seqObj "list" #[] e1)] ++ ledger s.heap L) := N1
      refine kas_kind (T := .type "list") (by omega) (fun v hv => ?_) rfl rfl ?_
      · obtain ⟨i, hi⟩ := List.mem_iff_getElem?.mp hv
        obtain ⟨v', b, c, t, hv', rfl, lb, rfl⟩ := hks i v hi
        obtain ⟨b', c', t', us, e', lb', lc, _⟩ := hpt i _ hv'
        cases e'
        have : c = c' := by
          obtain ⟨o, g, _, _, d⟩ := lb
          obtain ⟨o', g', _, _, d'⟩ := lb'
          rw [g] at g'; cases g'; rw [d] at d'; cases d'; rfl
        subst this
        obtain ⟨o, g, hc, _⟩ := listOf' N1' lc
        exact kitAt_ty _ _ ⟨o, g, hc⟩
      · refine Kw.wp (N := vs.length) (R := R) (fun i j C hi hj hC => ?_) ((sort_kw (by omega)).mono fun p ⟨pb, ps⟩ => ?_)
        · have gi : ∃ k, ks[i]? = some k := ⟨ks[i]'(by omega), by simp⟩
          have gj : ∃ k, ks[j]? = some k := ⟨ks[j]'(by omega), by simp⟩
          obtain ⟨ki, hki⟩ := gi
          obtain ⟨kj, hkj⟩ := gj
          obtain ⟨vi, bi, ci, ti, hvi, rfl, lbi, rfl⟩ := hks i ki hki
          obtain ⟨vj, bj, cj, tj, hvj, rfl, lbj, rfl⟩ := hks j kj hkj
          have same : ∀ {b c c' t t'}, s.heap.IsList b #[.ref c, t] → s.heap.IsList b #[.ref c', t'] → c = c' := fun {b c c' t t'} l1 l2 => by
            obtain ⟨o, g, _, _, d⟩ := l1
            obtain ⟨o', g', _, _, d'⟩ := l2
            rw [g] at g'; cases g'; rw [d] at d'; cases d'; rfl
          obtain ⟨b1, c1, t1, us1, e1', lb1, lc1, hu1⟩ := hpt i _ hvi
          cases e1'
          obtain ⟨b2, c2, t2, us2, e2', lb2, lc2, hu2⟩ := hpt j _ hvj
          cases e2'
          have q1 := same lbi lb1
          have q2 := same lbj lb2
          subst q1 q2
          unfold kas_ask
          rw [show (katRev false ks).getD i Value.none = .ref ci by show ks.getD i Value.none = _; simp [hki], show (katRev false ks).getD j Value.none = .ref cj by show ks.getD j Value.none = _; simp [hkj]]
          exact lt_lists (listOf' N1' lc1) (listOf' N1' lc2) hu1 hu2 (hlex i j) (by show A.units + 1 + 1 < cLine; omega) hC
        · refine KatFin.intro F1 N1 (.head fun q hq => ?_) fun h2 c2 F2 N2 => KasFin.intro F2 N2 (.tail (Ne.symm hDne) (.head fun q hq => apartD q hq)) fun h3 c3 F3 N3 => ?_
          · rcases List.mem_cons.mp hq with rfl | hq
            · exact hDne
            · exact apart q hq
          · have N3' : News (noHeap s.heap) L h3 ([(kS, seqObj "list" #[] c2), (D, PySem.W.listOf (List.toArray (katRev false (p.toList.map fun i => (katRev false vs).getD i Value.none))) c3)] ++ ledger s.heap L) := N3
            refine h D (p.toList.map fun i => vs.getD i Value.none) _ (keepOf N3') F3.ns hos hbare ⟨_, (N3' _ (List.mem_append_left _ (.tail _ (.head _)))).1, rfl, _, rfl⟩ ⟨p, pb, ps, rfl⟩
    | cons v r ih =>
      intro ks e s' hlen hdrop hks hos hbare F1 N1
      have N1' : News (noHeap s.heap) L s'.heap ([(kS, seqObj "list" (List.toArray ks) e), (D, seqObj "list" #[] e1)] ++ ledger s.heap L) := N1
      rw [List.length_cons] at hlen
      have hv : vs[ks.length]? = some v := by
        have : (vs.drop ks.length)[0]? = some v := by rw [hdrop]; rfl
        simpa using this
      obtain ⟨b, c, t, us, rfl, lb, lc, hu'⟩ := hpt _ v hv
      refine KatKeys.cons (lam_call (show A.depth < recursionLimit by omega) (keepOf N1' f _ ?_ ho) ?_ ?_ (listOf' N1' lb) fun s2 k2 => ?_)
      · rintro rfl
        obtain ⟨o', es, ep, e', d, _⟩ := hL
        rw [ho] at e'; cases e'; cases d
      · obtain ⟨cc, oo, vv, tt, e', g, d, q⟩ := hcd
        cases e'
        exact ⟨_, oo, vv, tt, rfl, keepOf N1' _ _ hcL g, d, q⟩
      · obtain ⟨mc, nc, q⟩ := lim
        obtain ⟨o', es, ep, e', d, rr⟩ := nc
        exact ⟨mc, ⟨o', es, ep, keepOf N1' _ _ (Ne.symm hcsL) e', d, rr⟩, q⟩
      · refine KatBack.intro ⟨k2.ns F1.ns, fun b o e => (by rw [noHeap_get] at e; cases e), Nat.zero_le _⟩ (fun p hp => ⟨k2.keep _ _ (N1 p hp).1, (N1 p hp).2⟩) (.head fun q hq => ?_) fun h3 c3 F3 N3 => ?_
        · rcases List.mem_cons.mp hq with rfl | hq
          · exact hDne
          · exact apart q hq
        · refine ih (ks ++ [.ref c]) c3 { s2 with heap := h3 } (by rw [List.length_append, List.length_singleton]; omega) ?_ ?_ (k2.os.trans hos) (fun q => k2.bare (hbare q)) F3 N3
          · rw [List.length_append, List.length_singleton, ← List.drop_drop, hdrop]; rfl
          · intro i k hk
            by_cases hi : i < ks.length
            · rw [List.getElem?_append_left hi] at hk
              exact hks i k hk
            · rw [List.getElem?_append_right (by omega)] at hk
              have h0 : i - ks.length = 0 := by
                by_cases q : i - ks.length = 0
                · exact q
                · rw [List.getElem?_eq_none (by simp; omega)] at hk; cases hk
              rw [h0] at hk
              cases hk
              have : i = ks.length := by omega
              subst this
              exact ⟨_, b, c, t, hv, rfl, lb, rfl⟩
  exact keys vs [] 0 _ (by simp) (by simp) (fun i k hk => by simp at hk) rfl (fun q => q) F' N'
end
end Mine
end

section
open PySem PySem.W PyProof.Rows PySem.SeqAt PySem.Calls
set_option Elab.async false
set_option maxRecDepth 100000
namespace Mine

/-- where the law's code keeps the codes made in it: none yet -/
def Lam (h : Heap) (cd : Value) : Prop := ∃ c P mg, cd = .ref c ∧ CodeHd h c P ∧ h.get? P = some (tabObj #[]) ∧ h.Ns mainGlobals mg ∧ h.BuiltinsAt mg P ∧ P ≠ cStatics ∧ @LT.lt Nat _ P 85 ∧ P ≠ (58 : Nat) ∧ mainGlobals ≠ P

theorem ns_ne {h : Heap} {a P : Addr} {m : Str → Option Value} (n : h.Ns a m) (hP : h.get? P = some (tabObj #[])) : a ≠ P := by
  rintro rfl
  obtain ⟨o, es, ep, e, d, _⟩ := n
  rw [hP] at e; cases e; cases d
theorem fn_but {h h' : Heap} {P : Addr} (hP : h.get? P = some (tabObj #[])) (k : Heap.ExtBut P h h') {i : Nat} {a : Addr} (f : FnAt h i a) : FnAt h' i a := by
  obtain ⟨o, pm, kk, e, c1, d, r, hk⟩ := f
  refine ⟨o, pm, kk, k _ _ (fun q => ?_) e, c1, d, ?_, hk⟩
  · subst q; rw [hP] at e; cases e; cases d
  · obtain ⟨c, o', vs, t, e', g, d', q⟩ := r
    cases e'
    refine ⟨_, o', vs, t, rfl, k _ _ (fun z => ?_) g, d', q⟩
    subst z; rw [hP] at g; cases g; cases d'; simp at q
theorem Gl.but {h h' : Heap} {P : Addr} (g : Gl h) (hP : h.get? P = some (tabObj #[])) (k : Heap.ExtBut P h h') : Gl h' where
  names := let ⟨mg, mb, a, b, r⟩ := g.names; ⟨mg, mb, a.extBut k (ns_ne a hP), b.extBut k (ns_ne b hP), r⟩
  lim := let ⟨mc, a, b⟩ := g.lim; ⟨mc, a.extBut k (ns_ne a hP), b⟩
  digits := let ⟨mc, a, b⟩ := g.digits; ⟨mc, a.extBut k (ns_ne a hP), b⟩
  f2 := fn_but hP k g.f2
  f3 := fn_but hP k g.f3
  f4 := fn_but hP k g.f4
  f8 := fn_but hP k g.f8
  f10 := fn_but hP k g.f10
  f11 := fn_but hP k g.f11
  re := let ⟨a, b, c, e⟩ := g.re; ⟨a, b, c, k _ _ (fun q => by rw [q, hP] at e; cases e) e⟩
  code := k _ _ (fun q => by have e := g.code; rw [q, hP] at e; cases e) g.code

theorem All2.of_maps {α β γ : Type} {R : β → γ → Prop} {f : α → β} {g : α → γ} : ∀ {l : List α}, (∀ i ∈ l, R (f i) (g i)) → All2 R (l.map f) (l.map g)
  | [], _ => .nil
  | a :: l, h => .cons (h a (.head _)) (All2.of_maps fun i hi => h i (.tail _ hi))

/-- the points laid in order -/
structure Laid (X : Nat → Int) (pts lst : List (Nat × Str)) : Prop where
  perm : lst.Perm pts
  sorted : lst.Pairwise fun a b => rk (X a.1) ≤ rk (X b.1)

theorem laid_of {X : Nat → Int} {pts : List (Nat × Str)} {vs out : List Value} {h : Heap} (al : All2 (PT X h) pts vs) (so : SortedOut (fun i => rk (X (pts.getD i (0, Str.empty)).1)) vs out) : ∃ lst, Laid X pts lst ∧ All2 (PT X h) lst out := by
  obtain ⟨p, pb, ps, rfl⟩ := so
  have hn := al.length
  refine ⟨p.toList.map fun i => pts.getD i (0, Str.empty), ⟨?_, ?_⟩, All2.of_maps fun i hi => ?_⟩
  · have e := range_getD pts (0, Str.empty)
    have q := pb.map fun i => pts.getD i (0, Str.empty)
    rw [← hn, ← e] at q
    exact q
  · rw [List.pairwise_iff_getElem]
    intro i j hi hj hij
    have sz := pb.size
    have hj' : j < vs.length := by simpa [sz] using hj
    have := ps i j (Nat.le_of_lt hij) hj'
    unfold kR at this
    have e1 : p.getD i 0 = p.toList[i]'(by simpa using hi) := by have q : i < p.size := (by simpa using hi); simp [Array.getD, q]
    have e2 : p.getD j 0 = p.toList[j]'(by simpa using hj) := by have q : j < p.size := (by simpa using hj); simp [Array.getD, q]
    rw [e1, e2] at this
    rw [List.getElem_map, List.getElem_map]
    exact this
  · have hi' : i < vs.length := List.mem_range.mp (pb.mem_iff.mp hi)
    obtain ⟨b, hb, hr⟩ := al.get i (pts.getD i (0, Str.empty)) (by have q : i < pts.length := (by omega); simp [q])
    have : vs.getD i Value.none = b := by simp [hb]
    rw [this]; exact hr

section
variable {prog : Program} {w : World} {A : Around} {E : Value → Shared → Prop} {s₁ s : Shared} {m cm : Str → Option Value} {pm cd : Value}

set_option maxHeartbeats 2000000 in
/-- what the sort of the points leaves -/
theorem sortedPts {l f L : Nat} {X : Nat → Int} {pts : List (Nat × Str)} {name qual : Str} {pm ctv : Value} {c' : Addr} {Q : Value → Shared → Prop} (hroom : A.depth + 5 < recursionLimit) (hu : A.units + 8 < cLine)
    (hL : s.heap.Ns L m) (hl : PTs X s.heap l pts) (h2 : pts = [] ∨ 2 ≤ pts.length) (h64 : pts.length < 64) (lim : s.heap.NoLimit) (hcsL : L ≠ cStatics)
    (ho : s.heap.get? f = some (kla_obj name qual lamParams lamBody lamScope [] pm c' ctv)) (hcd : s.heap.CodeRec (.ref c') qual) (hcL : c' ≠ L)
    (h : ∀ D lst s', (∀ b o, b ≠ L → s.heap.get? b = some o → s'.heap.get? b = some o) → s'.heap.Ns L m → s'.os = s.os → (AllBare s.gens → AllBare s'.gens) → PTs X s'.heap D lst → Laid X pts lst → Q (.ref D) s') :
    wpAny (model prog w) A (call (.builtin "sorted") [.ref l] [(Str.ofString "key", .ref f)]) Q E s := by
  obtain ⟨vs, hlv, al⟩ := hl
  have hn := al.length
  have lkOf : ∀ {s' : Shared}, (∀ b o, @Ne Nat b L → s.heap.get? b = some o → s'.heap.get? b = some o) → Lk s.heap s'.heap := fun {s'} k b us _ hb => by
    obtain ⟨o, e, r⟩ := hb
    refine ⟨o, k b o (fun q => ?_) e, r⟩
    subst q
    obtain ⟨o', es, ep, e', d, _⟩ := hL
    rw [e] at e'; cases e'
    obtain ⟨_, n, d'⟩ := r
    rw [d] at d'; cases d'
  rcases h2 with rfl | h2
  · have hv : vs = [] := by cases vs with | nil => rfl | cons _ _ => cases hn
    subst hv
    have F : Fr (noHeap s.heap) L s.heap m := ⟨hL, fun b o e => (by rw [noHeap_get] at e; cases e), Nat.zero_le _⟩
    have N : News (noHeap s.heap) L s.heap (ledger s.heap L) := fun p hp => by
      obtain ⟨b, o⟩ := p
      obtain ⟨h1, h2⟩ := ledger_mem.mp hp
      exact ⟨h2, h1, noHeap_get _ _⟩
    refine ksk_sorted (b := false) (kz := []) (f := .ref f) F N hlv rfl (by simp) (ksk_s1 _ _) (fun x => ksk_l1 _ _) (fun x => ksk_t1 _ _) (fun i v k hv => by simp at hv) fun D h' tk out c F' N' hq ko => ?_
    obtain ⟨ps, pp, e, _⟩ := ko
    have hp : ps = [] := by have := pp.length_eq; simp at this; exact this
    subst hp
    have keep : ∀ b o, @Ne Nat b L → s.heap.get? b = some o → h'.get? b = some o := fun b o hb e => (N' (b, o) (.tail _ (ledger_mem.mpr ⟨hb, e⟩))).1
    have eo : out = ([] : List Value).toArray := by
      apply Array.toList_inj.mp; rw [e]; rfl
    subst eo
    exact h D [] { s with heap := h', toks := tk } keep F'.ns rfl (fun q => q) ⟨[], ⟨_, (N' _ (.head _)).1, rfl, _, rfl⟩, .nil⟩ ⟨.refl _, .nil⟩
  · refine sortedP (TD := fun i => td (X (pts.getD i (0, Str.empty)).1)) (R := fun i => rk (X (pts.getD i (0, Str.empty)).1)) hroom hu hL hlv (by omega) (by omega) lim hcsL ho hcd hcL (fun i v hv => ?_) (fun i j => td_lex false _ _) fun D out s' k ns os bare lD so => ?_
    · obtain ⟨p, hp, b, c, t, us, e, lb, lc, hu'⟩ := al.getR i v hv
      refine ⟨b, c, _, us, e, lb, lc, ?_⟩
      show Holds2 us.toList (td (X (pts.getD i (0, Str.empty)).1))
      have : pts.getD i (0, Str.empty) = p := by simp [hp]
      rw [this]; exact hu'
    · obtain ⟨lst, la, al'⟩ := laid_of al so
      exact h D lst s' k ns os bare ⟨out, lD, al'.mono fun p v q => (lkOf k).pt q⟩ la

theorem ptsL_len (l : List (Nat × Nat)) : (ptsL l).length = 2 * l.length := by unfold ptsL; simp; omega

set_option maxHeartbeats 4000000 in
theorem law7 {D : Addr} {X : Nat → Int} {Q : Flow → Shared → Prop} (hroom : A.depth + 5 < recursionLimit) (hu : A.units + 8 < cLine) (x : LS prog w s₁ m cm s) (hlam : Lam s₁.heap cd) (hnl : cm (Str.ofString "laid") = none)
    (hm : m (Str.ofString "points") = some (.ref D)) (hD : PTs X s.heap D (ptsL (rngs X)))
    (h : ∀ D' lst s', LS prog w s₁ m (fun y => if y = Str.ofString "laid" then some (.ref D') else cm y) s' → Lk s.heap s'.heap → PTs X s'.heap D' lst → Laid X (ptsL (rngs X)) lst → Q .next s') :
    wpAny (model prog w) A (exec (lS 7) (lEnv s₁.heap.objs.size pm cd)) Q E s := by
  obtain ⟨c, P, mg, rfl, C₀, hP₀, hg₀, hb₀, hPs, hP85, hP58, hgP⟩ := hlam
  have tab := x.tab hnl
  have C := C₀.keeps tab
  have hP := tab _ _ hP₀
  have hg := hg₀.keeps tab
  have hb := hb₀.keeps tab
  have low := x.low
  have sz := x.size
  refine wpAny_Assign_Name ?_
  show wpAny _ _ (eval (.Name (Str.ofString "sorted") _) _ >>= fun f => callWith _ f [] (backTo _ (starEach _ _)) (backToKw _ (keywordEach _ _))) _ _ _
  refine wpAny_bind (nmB x.gl bt_sorted ?_)
  refine callWith_kw ?_
  refine args_cons (nmL x.ns hm (args_nil ?_))
  refine kws_cons (kla_eval rfl (kla_makeFunction (mg := mg) (clos := []) rfl rfl hg rfl C hP trivial rfl hgP hb fun c' ctv h' tk hx hge hlt hrec htb => ?_))
  replace hx : Heap.ExtBut P s.heap h' := hx
  replace hge : s.heap.objs.size ≤ c' := hge
  refine kws_nil ?_
  generalize hfo : kla_obj (Str.ofString "<lambda>") ((lEnv s₁.heap.objs.size pm (.ref c)).qual ++ Str.ofString "<lambda>") lamParams lamBody lamScope [] ((mg (Str.ofString "__name__")).getD .none) c' ctv = fo
  show wpAny _ _ (call (.builtin "sorted") [.ref D] [(Str.ofString "key", .ref h'.objs.size)]) _ _ { s with heap := h'.push (kla_obj (Str.ofString "<lambda>") ((lEnv s₁.heap.objs.size pm (.ref c)).qual ++ Str.ofString "<lambda>") lamParams lamBody lamScope [] ((mg (Str.ofString "__name__")).getD .none) c' ctv), toks := tk }
  rw [hfo]
  have hx2 : Heap.ExtBut P s.heap (h'.push fo) := fun b o hb e => Heap.get?_push_of_some _ (hx b o hb e)
  have hg2 : Gl (h'.push fo) := x.gl.but hP hx2
  have hLP : s₁.heap.objs.size ≠ P := by intro q; have q' : @Eq Nat s₁.heap.objs.size P := q; omega
  have ns2 : (h'.push fo).Ns s₁.heap.objs.size m := x.ns.extBut hx2 hLP
  have lkP : Lk s.heap (h'.push fo) := fun b us _ hl => by
    obtain ⟨o, e, r⟩ := hl
    refine ⟨o, hx2 b o (fun q => ?_) e, r⟩
    subst q; rw [hP] at e; cases e
    obtain ⟨_, n, d⟩ := r; cases d
  have len := ptsL_len (rngs X)
  have l3 := rngs_len (X := X)
  refine sortedPts (L := s₁.heap.objs.size) (m := m) (X := X) (pts := ptsL (rngs X)) (f := h'.objs.size) hroom hu ns2 (lkP.pts hD) ?_ (by omega) hg2.lim ?_ (by rw [← hfo]; exact Heap.get?_push_size _ rfl) ?_ ?_ fun D' lst s₃ k₃ ns₃ os₃ bare₃ pt₃ la => ?_
  · by_cases q : (rngs X).length = 0
    · left; exact List.length_eq_zero_iff.mp (by omega)
    · right; omega
  · show @Ne Nat _ _
    have : @LT.lt Nat _ cStatics 85 := by decide
    omega
  · obtain ⟨cc, oo, vv, tt, e', g, d, q⟩ := hrec
    cases e'
    exact ⟨_, oo, vv, tt, rfl, Heap.get?_push_of_some _ g, d, q⟩
  · intro q
    have q' : @Eq Nat c' s₁.heap.objs.size := q
    have hge' : @LE.le Nat _ s.heap.objs.size c' := hge
    omega
  · replace k₃ : ∀ b o, @Ne Nat b s₁.heap.objs.size → (h'.push fo).get? b = some o → s₃.heap.get? b = some o := k₃
    have kk : KpOn s₁.heap.objs.size (fun b => @Ne Nat b s₁.heap.objs.size) (h'.push fo) s₃.heap := KpOn.of_keep fun b o hb e => k₃ b o hb e
    have lk3 : Lk (h'.push fo) s₃.heap := fun b us _ hl => by
      obtain ⟨o, e, r⟩ := hl
      refine ⟨o, k₃ b o (fun q => ?_) e, r⟩
      have q' : b = s₁.heap.objs.size := q
      subst q'
      obtain ⟨o', es, ep, e', d, _⟩ := ns2
      rw [e] at e'; cases e'
      obtain ⟨_, n, d'⟩ := r
      rw [d] at d'; cases d'
    have old2 : OldK s₁.heap (h'.push fo) := OldK.step_keeps (x.old.step_table (C₀.tab hP₀) (C.tab hP) (ps := #[]) ⟨?_, htb⟩ hx hPs) fun b o e => Heap.get?_push_of_some _ e
    rotate_left
    · obtain ⟨⟨o, vs, e1, e2, e3, e4⟩, _⟩ := C.tab hP
      refine ⟨o, vs, hx _ _ (fun q => ?_) e1, e2, e3, e4⟩
      subst q; rw [hP] at e1; cases e1; cases e2
    have x₃ : LS0 prog w s₁ m cm s₃ := by
      refine ⟨ns₃, fun n c hc => ?_, hg2.kp kk fun b hb => (show @Ne Nat _ _ by omega), (x.stg.get fun o e => hx2 58 o (Ne.symm hP58) e).get fun o e => k₃ 58 o (by omega) e, kk.old (fun b hb => Nat.ne_of_lt hb) (Nat.le_refl _) old2, os₃.trans x.os, fun q => bare₃ x.bare q, ?_, low⟩
      · have hb := lCells_mem hc
        have c2 : (h'.push fo).IsCell c (cm n) := by
          obtain ⟨o, e, d⟩ := x.cell n c hc
          exact ⟨o, hx2 c o (fun q => by have q' : @Eq Nat c P := q; omega) e, d⟩
        exact kk.isCell (show @Ne Nat _ _ by omega) c2
      · obtain ⟨o, e, d⟩ := x.cell (Str.ofString "laid") _ rfl
        have l5 : @LT.lt Nat _ (s₁.heap.objs.size + 5) s₃.heap.objs.size := Heap.lt_size (k₃ (s₁.heap.objs.size + 5) o (by omega) (hx2 _ o (fun q => by have q' : @Eq Nat (s₁.heap.objs.size + 5) P := q; omega) e))
        omega
    refine x₃.storeC (c := s₁.heap.objs.size + 5) rfl rfl (fun n' c' h' hne => cells_apart (n := Str.ofString "laid") rfl h' hne) fun s₆ L₆ sb₆ => ?_
    have lk6 := lk_same (noSeq_cell (x₃.cell (Str.ofString "laid") _ rfl)) sb₆
    exact h D' lst s₆ ⟨L₆, fun q => by rw [if_pos rfl] at q; cases q⟩ ((lkP.trans lk3).trans lk6) (lk6.pts pt₃) la
end
end Mine
end

section
open PySem PySem.W PyProof.Rows PySem.SeqAt PySem.Calls
set_option Elab.async false
set_option maxRecDepth 100000
namespace Mine

/-- the row of brackets up to a release -/
def rowL (X : Nat → Int) (lst : List (Nat × Str)) (k : Nat) : List (Nat × Str) := lst.filter fun p => decide (rk (X p.1) ≤ rk (X k))
def rowS (X : Nat → Int) (lst : List (Nat × Str)) (k : Nat) : Str := Txt.join (Str.ofString "") ((rowL X lst k).map Prod.snd)

/-- a sign at its place -/
def SG (p : Nat × Str) (v : Value) : Prop := ∃ t, v = .str p.2 t
theorem strs_of : ∀ {l : List (Nat × Str)} {ys : List Value}, All2 SG l ys → StrsAre ys (l.map Prod.snd)
  | _, _, .nil => .nil
  | _, _, .cons ⟨t, e⟩ r => by subst e; exact .cons _ t (strs_of r)

theorem pts_size {X : Nat → Int} {h : Heap} {a : Addr} {l : List (Nat × Str)} (x : PTs X h a l) : ∃ vs : List Value, h.IsList a vs.toArray ∧ vs.length = l.length ∧ ∀ (i : Nat) (v : Value), vs[i]? = some v → ∃ p, l[i]? = some p ∧ PT X h p v := by
  obtain ⟨vs, hl, al⟩ := x
  refine ⟨vs, hl, al.length.symm, fun i v hv => ?_⟩
  obtain ⟨p, hp, q⟩ := al.getR i v hv
  exact ⟨p, hp, q⟩

theorem sum_le : ∀ (l : List (Nat × Str)), (∀ p ∈ l, p.2.length ≤ 1) → ((l.map Prod.snd).map (·.length)).sum ≤ l.length
  | [], _ => Nat.le_refl _
  | a :: l, h => by
    have := sum_le l fun p hp => h p (.tail _ hp)
    have := h a (.head _)
    simp only [List.map_cons, List.sum_cons, List.length_cons]
    omega

section
variable {prog : Program} {w : World} {A : Around} {E : Value → Shared → Prop} {s₁ s : Shared} {m cm : Str → Option Value} {pm cd : Value}

/-- range(8) -/
theorem range8 {env : Env} {p1 p2 p3 : Pos} {Q : Value → Shared → Prop} (G : Gl s.heap) (h : ∀ S r t u v, Kg s S → IsRange S.heap r 0 ((8 : Nat) : Int) 1 t u v → Q (.ref r) S) (hg : env.globals = mainGlobals := by rfl) (hb : env.builtins = builtinsNs := by rfl)
    (hk : env.scope.kind = .function := by rfl) (hl : env.kindOf (Str.ofString "range") = some .globalImplicit := by rfl) :
    wpAny (model prog w) A (eval (.Call (.Name (Str.ofString "range") p1) [.Constant (.int 8) 0 p2] [] p3) env) Q E s := by
  refine Call_ (nmB G (x := Str.ofString "range") (v := .type "range") (by decide +kernel) ?_ hg hb hk hl)
  refine PyProof.Rows.callWith_type1 (args_cons (wpAny_Constant_int (args_nil (call_range_1 ?_))))
  exact h _ _ _ _ _ ⟨fun b o e => Heap.get?_push_of_some _ e, rfl, fun q => q⟩ (Heap.get?_push_size _ rfl)

set_option maxHeartbeats 2000000 in
/-- the rows -/
theorem law8 {T D : Addr} {X : Nat → Int} {lst : List (Nat × Str)} {Q : Flow → Shared → Prop} (hh : A.handled = none) (hu : A.units + 5 < cLine) (x : LS prog w s₁ m cm s) (ht : cm (Str.ofString "told") = some (.ref T)) (hd : cm (Str.ofString "laid") = some (.ref D))
    (hT : TLs s.heap T (fun i => td (X i)) 8) (hD : PTs X s.heap D lst) (h8 : lst.length ≤ 8) (hs : ∀ p ∈ lst, p.2.length ≤ 1)
    (h : ∀ R s', LS prog w s₁ (fun y => if y = Str.ofString "rows" then some (.ref R) else m y) cm s' → Lk s.heap s'.heap → SLs s'.heap R (rowS X lst) 8 → Q .next s') :
    wpAny (model prog w) A (exec (lS 8) (lEnv s₁.heap.objs.size pm cd)) Q E s := by
  refine asgR (m := m) (cm := cm) (cl := [(Str.ofString "told", s₁.heap.objs.size + 3), (Str.ofString "laid", s₁.heap.objs.size + 5)]) (n := 8) rfl rfl rfl rfl (by decide +kernel) hh (by decide) (by decide) (by decide) ?_
  refine range8 x.gl fun S r t u v kS hr => ?_
  have xS := x.kg kS
  refine ⟨xS, r, t, u, v, rfl, hr, fun _ => true, fun i y h => ∃ t, y = .str (rowS X lst i) t, fun i y h h' q _ => q, ?_, fun ys s' D M => ?_⟩
  · refine turnT (setsC rfl rfl rfl rfl) fun i s' hi kg hN hown E' => ifs0 ⟨Kg.refl, rfl, fun _ => ?_⟩
    obtain ⟨v, ⟨tv, hv⟩, hc⟩ := hN
    rw [Int.zero_add] at hv
    subst hv
    refine wpAny_Call_method (T := "str") (id := "str.join") rfl rfl rfl F.plainAttrs_str F.slot_str_join F.type_str_join (wpAny_Constant_str ⟨typeIs_str _ _ _, (fun a e => by cases e), ?_⟩)
    have kt : Kg s' { s' with toks := s'.toks + 1 } := ⟨fun _ _ e => e, rfl, fun q => q⟩
    generalize ({ s' with toks := s'.toks + 1 } : Shared) = s0 at kt ⊢
    replace hc := kt.cell hc
    have k' : Kg s s0 := (kS.trans kg).trans kt
    have x' := x.kg k'
    have T' := k'.lk.tls hT
    obtain ⟨vs, hlD, hvn, hvi⟩ := pts_size (k'.lk.pts hD)
    refine callWith_method1 (args_cons (lcA (cl := [(Str.ofString "told", s₁.heap.objs.size + 3), (Str.ofString "k", S.heap.objs.size + 3)]) rfl rfl (by decide +kernel) hh ?_))
    refine x'.nm hd (c := s₁.heap.objs.size + 5) rfl rfl ⟨D, _, rfl, hlD, by rw [List.size_toArray, hvn, sizeLine_eq]; omega, fun j => decide (rk (X (lst.getD j (0, Str.empty)).1) ≤ rk (X i)), fun j y _ => ∃ p, lst[j]? = some p ∧ SG p y, fun i y h h' q _ => q, ?_, fun ys s₄ D' M => ?_⟩
    · refine turnT (sets2 (PP := fun j va vb => ∃ p c t us, lst[j]? = some p ∧ va = .ref c ∧ vb = .str p.2 t ∧ s0.heap.IsList c us ∧ Holds2 us.toList (td (X p.1))) hh rfl rfl (by decide) rfl fun j v hv => ?_) fun j s'' hj kg' hN' hown' E'' => ?_
      · obtain ⟨p, hp, b, c, t, us, e, hb, hc, hu⟩ := hvi j v (by simpa using hv)
        exact ⟨b, _, _, e, hb, p, c, t, us, hp, rfl, rfl, hc, hu⟩
      · obtain ⟨va, vb, mm, ⟨p, c, t, us, hp, rfl, rfl, lc, hu'⟩, hn, hm1, hm2⟩ := hN'
        have x'' := x'.kg kg'
        have T'' := kg'.lk.tls T'
        refine ifs1 (wpAny_isTrue_Compare1 (nmL hn hm1 (sub_ (x''.nm ht (c := s₁.heap.objs.size + 3) rfl rfl (nmC (c := S.heap.objs.size + 3) rfl (kg'.cell hc) (tls_item T'' hi fun b us2 lb hu2 => ?_))))))
        refine list_ord (le := true) (kg'.list lc) lb hu' hu2 (td_lex true _ _) (by omega) (wpAny_truthy_bool ⟨Kg.refl, ?_, fun _ => nmL hn hm2 ⟨Kg.refl, p, hp, t, rfl⟩⟩)
        have : lst.getD j (0, Str.empty) = p := by simp [hp]
        rw [this]; rfl
    · have al := all2_filter (kp := fun p => decide (rk (X p.1) ≤ rk (X i))) (0, Str.empty) (by rw [List.size_toArray, hvn]) M.all
      refine args_nil (join_listW M.list (strs_of al) (by decide) ?_ fun t' tk => ⟨kt.trans ⟨M.kg.keep, M.kg.os, M.kg.bare⟩, t', rfl⟩)
      have h1 : (lst.filter fun p => decide (rk (X p.1) ≤ rk (X i))).length ≤ lst.length := List.length_filter_le _ _
      have h2 := sum_le (lst.filter fun p => decide (rk (X p.1) ≤ rk (X i))) fun p hp => hs p (List.mem_filter.mp hp).1
      rw [List.length_map]
      omega
  · obtain ⟨hlen, hall⟩ := all2_range M.all
    refine h D s' M.ls (kS.lk.trans M.lk) ⟨ys.toArray, M.list, by rw [List.size_toArray, hlen], fun i hi => ?_⟩
    obtain ⟨y, hy, t, rfl⟩ := hall i hi
    exact ⟨t, by simpa using hy⟩
end
end Mine
end

section
open PySem PySem.W PyProof.Rows PySem.SeqAt PySem.Calls
set_option Elab.async false
set_option maxRecDepth 100000
namespace Mine

/-- a list of truths -/
def BLs (h : Heap) (a : Addr) (g : Nat → Bool) (n : Nat) : Prop := ∃ vs, h.IsList a vs ∧ vs.size = n ∧ ∀ i, i < n → vs[i]? = some (.bool (g i))
theorem Lk.bls {h h' : Heap} (k : Lk h h') {a : Addr} {g : Nat → Bool} {n : Nat} (x : BLs h a g n) : BLs h' a g n :=
  let ⟨vs, hl, hn, hi⟩ := x; ⟨vs, k _ _ trivial hl, hn, hi⟩
theorem Lk.sls {h h' : Heap} (k : Lk h h') {a : Addr} {f : Nat → Str} {n : Nat} (x : SLs h a f n) : SLs h' a f n :=
  let ⟨vs, hl, hn, hi⟩ := x; ⟨vs, k _ _ trivial hl, hn, hi⟩

theorem ascii_of {x : Str} (hx : ∀ c ∈ x.cps, c = 40 ∨ c = 41) : strIterType x = "str_ascii_iterator" := by
  unfold strIterType
  rw [if_pos]
  rw [Array.all_eq_true']
  intro c hc
  rcases hx c hc with q | q <;> subst q <;> decide

theorem rev_toList (x : Str) (u : Tok) : (Txt.sliceBy x none none (-1, u)).cps.toList = x.cps.toList.reverse := by
  rw [step_rev_list]
  apply List.ext_getElem?
  intro i
  have hz : x.length = x.cps.toList.length := by simp [Str.length]
  by_cases hi : i < x.length
  · rw [List.getElem?_map, List.getElem?_range hi, List.getElem?_reverse (by omega), ← hz]
    simp only [Option.map_some]
    have : x.length - 1 - i < x.cps.size := by simp only [Str.length] at hi ⊢; omega
    rw [Array.getD_eq_getD_getElem?]
    simp [this]
  · rw [List.getElem?_eq_none (by simp; omega), List.getElem?_eq_none (by simp [Str.length] at hi ⊢; omega)]

section
variable {prog : Program} {w : World} {A : Around} {E : Value → Shared → Prop} {s₁ s : Shared} {m cm : Str → Option Value} {pm cd : Value}

/-- a text turned about -/
theorem rev_str {env : Env} {value : Expr} {x : Str} {t : Tok} {p1 p2 p3 p4 : Pos} {Q : Value → Shared → Prop} (hsz : x.length ≤ sizeLine) (hv : ∀ Q' : Value → Shared → Prop, Q' (.str x t) s → wpAny (model prog w) A (eval value env) Q' E s)
    (h : ∀ y t' s', Kg s s' → y.cps.toList = x.cps.toList.reverse → Q (.str y t') s') (ht : ∀ o r, letTemporaryGo value o r = pure () := by intro _ _; rfl) :
    wpAny (model prog w) A (eval (.Subscript value (.Slice none none (some (.UnaryOp .USub (.Constant (.int 1) 0 p1) p2)) p3) p4) env) Q E s := by
  refine wpAny_Subscript_Slice_step F.slot_str_getitem.lookup (hv _ (wpAny_Slice ?_)) ht
  rw [evalPart_none, evalPart_some]
  refine wpAny_pure (wpAny_pure (wpAny_UnaryOp (wpAny_Constant_int (PySem.P.neg_int ⟨typeIs_str _ _ _, ?_⟩))))
  refine wpAny_getItem_str_slice (l := none) (u := none) (st := some (-1, _)) ⟨_, Heap.get?_push_size _ rfl, rfl, rfl⟩ rfl ?_
  refine post_val_or_str ⟨Nat.le_trans (Txt.sliceBy_le x none none (-1, _) (show (-1 : Int) ≠ 0 by decide)) hsz, fun t' c => ?_⟩
  exact h _ t' _ ⟨fun b o e => Heap.get?_push_of_some _ e, rfl, fun q => q⟩ (rev_toList x _)

theorem check_kg {x : Str} {t : Tok} {Q : Value → Shared → Prop} (G : Gl s.heap) (hh : A.handled = none) (hroom : A.depth + 5 < recursionLimit) (hz : 85 ≤ s.heap.objs.size) (hx : ∀ c ∈ x.cps, c = 40 ∨ c = 41)
    (h : ∀ s', Kg s s' → Q (.bool (chk 0 x.cps.toList)) s') : wpAny (model prog w) A (call (.ref 52) [.str x t]) Q E s :=
  check_call G hh hroom hz (ascii_of hx) hx fun s' k os ⟨gs, hgs, hb⟩ => h s' ⟨k, os, fun q => by rw [hgs]; exact q.push hb⟩

def scR : Scope := { kind := .function, names := [(Str.ofString ".0", .local), (Str.ofString "row", .local), (Str.ofString "_check_parenthesis", .globalImplicit)], isGenerator := false, isCoroutine := false, more := [] }

/-- what the check says of each row, turned by a way -/
theorem ans_comp {R : Addr} {f : Nat → Str} {g : Nat → Bool} {arg : Expr} {p1 p2 p3 q pos : Pos} {Q : Value → Shared → Prop} (hh : A.handled = none) (hroom : A.depth + 5 < recursionLimit) (x : LS prog w s₁ m cm s) (hm : m (Str.ofString "rows") = some (.ref R)) (hl : SLs s.heap R f 8)
    (harg : ∀ i, i < 8 → ∀ (S s' : Shared) (mm : Str → Option Value) t (Q' : Value → Shared → Prop) (E' : Value → Shared → Prop), s'.heap.Ns (S.heap.objs.size + 2) mm → mm (Str.ofString "row") = some (.str (f i) t) →
      (∀ y t' s'', Kg s' s'' → (∀ c ∈ y.cps, c = 40 ∨ c = 41) → chk 0 y.cps.toList = g i → Q' (.str y t') s'') → wpAny (model prog w) A (eval arg (cE scR [] S.heap.objs.size (lEnv s₁.heap.objs.size pm cd))) Q' E' s')
    (hst : ∀ env, starEach [arg] env = [(false, eval arg env)])
    (h : ∀ (ys : List Value) s' D, Kg s s' → s'.heap.IsList D ys.toArray → ys.length = 8 → (∀ i, i < 8 → ys[i]? = some (Value.bool (g i))) → Q (.ref D) s') :
    wpAny (model prog w) A (eval (.ListComp (.Call (.Name (Str.ofString "_check_parenthesis") p1) [arg] [] p2) [⟨.Name (Str.ofString "row") p3, .Name (Str.ofString "rows") q, [], 0⟩] scR pos) (lEnv s₁.heap.objs.size pm cd)) Q E s := by
  obtain ⟨vs, hlv, hvn, hvi⟩ := hl
  refine lcA (cl := []) rfl rfl (by decide +kernel) hh (nmL x.ns hm ⟨R, vs, rfl, hlv, by rw [hvn]; decide, fun _ => true, fun i y _ => y = .bool (g i), fun i y h h' q _ => q, ?_, fun ys s' D M => ?_⟩)
  · refine turnT (setsN rfl rfl) fun i s' hi kg hN hown E' => ifs0 ⟨Kg.refl, rfl, fun _ => ?_⟩
    obtain ⟨v, mm, hv, hn, hmm⟩ := hN
    have hi8 : i < 8 := by rw [hvn] at hi; exact hi
    obtain ⟨t, ht⟩ := hvi i hi8
    rw [ht] at hv
    cases hv
    have x' := x.kg kg
    refine Call_ (nmG x'.gl (x := Str.ofString "_check_parenthesis") (v := .ref 52) (by decide +kernel) (call_fn1 x'.gl.f4 (harg i hi8 s s' mm t _ _ hn hmm fun y t' s₃ k₃ hy hc => ⟨?_, ?_⟩) (hst _)))
    · obtain ⟨o, pm', k', e, _⟩ := x'.gl.f4
      exact (k₃.keep _ _ e).trans e.symm
    · have x₃ := x'.kg k₃
      have low := x₃.low
      have sz := x₃.size
      refine check_kg x₃.gl hh hroom (by omega) hy fun s₄ k₄ => ⟨k₃.trans k₄, ?_⟩
      rw [hc]
  · obtain ⟨hlen, hall⟩ := all2_range M.all
    refine h ys s' D M.kg M.list (by rw [hlen, hvn]) fun i hi => ?_
    obtain ⟨y, hy, rfl⟩ := hall i (by rw [hvn]; exact hi)
    exact hy

/-- the answers -/
def ansB (f : Nat → Str) (i : Nat) : Bool := if i < 8 then chk 0 (f i).cps.toList else chk 0 (f (i - 8)).cps.toList.reverse

theorem law9 {R : Addr} {f : Nat → Str} {Q : Flow → Shared → Prop} (hh : A.handled = none) (hroom : A.depth + 5 < recursionLimit) (x : LS prog w s₁ m cm s) (hm : m (Str.ofString "rows") = some (.ref R)) (hl : SLs s.heap R f 8)
    (hx : ∀ i, i < 8 → ∀ c ∈ (f i).cps, c = 40 ∨ c = 41) (hsz : ∀ i, i < 8 → (f i).length ≤ sizeLine)
    (h : ∀ D s', LS prog w s₁ (fun y => if y = Str.ofString "answers" then some (.ref D) else m y) cm s' → Lk s.heap s'.heap → BLs s'.heap D (ansB f) 16 → Q .next s') :
    wpAny (model prog w) A (exec (lS 9) (lEnv s₁.heap.objs.size pm cd)) Q E s := by
  refine wpAny_Assign_Name (wpAny_BinOp ?_)
  refine ans_comp (f := f) (g := fun i => chk 0 (f i).cps.toList) hh hroom x hm hl (fun i hi S s' mm t Q' E' hn hmm hQ => nmL hn hmm (hQ _ _ _ Kg.refl (hx i hi) rfl)) (fun _ => rfl) fun ys s₂ D k₂ l₂ n₂ a₂ => ?_
  have x₂ := x.kg k₂
  refine ans_comp (f := f) (g := fun i => chk 0 (f i).cps.toList.reverse) hh hroom x₂ hm (k₂.lk.sls hl) (fun i hi S s' mm t Q' E' hn hmm hQ => rev_str (x := f i) (t := t) (hsz i hi) (fun Q'' q => nmL hn hmm q) fun y t' s'' k' hy => hQ y t' s'' k' (fun c hc => ?_) (by rw [hy])) (fun _ => rfl) fun zs s₃ D' k₃ l₃ n₃ a₃ => ?_
  · have : c ∈ y.cps.toList := by simpa using hc
    rw [hy] at this
    exact hx i hi c (by simpa using this)
  refine addL (k₃.list l₂) l₃ (by rw [List.size_toArray, List.size_toArray, n₂, n₃, sizeLine_eq]; omega) ?_
  have k₄ : Kg s₃ { s₃ with heap := s₃.heap.push { cls := .type "list", data := .seq (ys.toArray ++ zs.toArray) } } := ⟨fun b o e => Heap.get?_push_of_some _ e, rfl, fun q => q⟩
  have x₄ := (x₂.kg k₃).kg k₄
  refine x₄.store rfl fun s₅ x₅ sb₅ => ?_
  have lk₅ := lk_same (noSeq_ns x₄.ns) sb₅
  have hL : (s₃.heap.push { cls := .type "list", data := .seq (ys.toArray ++ zs.toArray) }).IsList s₃.heap.objs.size (ys.toArray ++ zs.toArray) := ⟨_, Heap.get?_push_size _ rfl, rfl, _, rfl⟩
  refine h _ s₅ x₅ (((k₂.lk.trans k₃.lk).trans k₄.lk).trans lk₅) ⟨_, lk₅ _ _ trivial hL, by simp [n₂, n₃], fun i hi => ?_⟩
  unfold ansB
  by_cases q : i < 8
  · rw [if_pos q, Array.getElem?_append_left (by simp [n₂]; exact q)]
    simpa using a₂ i q
  · rw [if_neg q, Array.getElem?_append_right (by simp [n₂]; omega)]
    have := a₃ (i - 8) (by omega)
    simpa [n₂] using this
end
end Mine
end

section
open PySem PySem.W PyProof.Rows PySem.SeqAt PySem.Calls
set_option Elab.async false
set_option maxRecDepth 100000
namespace Mine

def scK : Scope := { kind := .function, names := [(Str.ofString ".0", .local), (Str.ofString "k", .cell), (Str.ofString "ranges", .free), (Str.ofString "worths", .free)], isGenerator := false, isCoroutine := false, more := [] }
def scF : Scope := { kind := .function, names := [(Str.ofString ".0", .local), (Str.ofString "first", .local), (Str.ofString "behind", .local), (Str.ofString "k", .free), (Str.ofString "worths", .free)], isGenerator := false, isCoroutine := false, more := [] }

section
variable {prog : Program} {w : World} {A : Around} {E : Value → Shared → Prop} {s₁ s : Shared} {m cm : Str → Option Value} {pm cd : Value}

abbrev eK (L I : Nat) (pm cd : Value) : Env := cE scK [(Str.ofString "worths", L + 2), (Str.ofString "ranges", L + 4)] I (lEnv L pm cd)
abbrev eF (L I J : Nat) (pm cd : Value) : Env := cE scF [(Str.ofString "worths", L + 2), (Str.ofString "k", I + 3)] J (eK L I pm cd)

theorem empty_eq {l b : Addr} {vs us : Array Value} {Q : Value → Shared → Prop} (hl : s.heap.IsList l vs) (hb : s.heap.IsList b us) (hu : us.size = 0) (hc : A.units < cLine) (h : Q (.bool (decide (vs.size = 0))) s) :
    wpAny (model prog w) A (compareOp .Eq (.ref l) (.ref b)) Q E s := by
  by_cases hz : vs.size = 0
  · have key := RcAt.lists (A := A) (e := fun _ => true) hl hb (hz.trans hu.symm) hc fun j h1 h2 => by omega
    rw [all_true] at key
    rw [decide_eq_true hz] at h
    exact EqBoolInt.of_rc key h
  · rw [decide_eq_false hz] at h
    exact EqBoolInt.of_rc (RcAt.lists_lengths hl hb (by rw [hu]; simpa using hz) hc) h

/-- what a test over the ranges asks -/
def Tst (prog : Program) (w : World) (A : Around) (s₁ : Shared) (m cm : Str → Option Value) (pm cd : Value) (X : Nat → Int) (W : Addr) (tst : Expr) (kp : Nat → Nat × Nat → Bool) : Prop :=
  ∀ (i I J : Nat) (s : Shared) (mm : Str → Option Value) (p : Nat × Nat) (t u v : Tok) (Q : Bool → Shared → Prop) (E : Value → Shared → Prop), i < 8 → p.1 < 8 → p.2 < 8 → LS prog w s₁ m cm s → s.heap.Ns (J + 2) mm → mm (Str.ofString "first") = some (.int (p.1 : Nat) t) → mm (Str.ofString "behind") = some (.int (p.2 : Nat) u) →
    s.heap.IsCell (I + 3) (some (.int (i : Int) v)) → TLs s.heap W (fun i => wd (X i)) 8 → Q (kp i p) s → wpAny (model prog w) A (isTrue tst (eF s₁.heap.objs.size I J pm cd) (eval tst (eF s₁.heap.objs.size I J pm cd))) Q E s

set_option maxHeartbeats 2000000 in
/-- which releases lie in no range -/
theorem in_none {W G : Addr} {X : Nat → Int} {l : List (Nat × Nat)} {tst : Expr} {kp : Nat → Nat × Nat → Bool} {y : Str} {py p1 p2 p3 p4 p5 p6 p7 p8 p9 p10 p11 p12 p13 : Pos} {Q : Flow → Shared → Prop} (hy : (lEnv s₁.heap.objs.size pm cd).kindOf y = some .local)
    (hh : A.handled = none) (hu : A.units + 5 < cLine) (x : LS prog w s₁ m cm s) (hw : cm (Str.ofString "worths") = some (.ref W)) (hg : cm (Str.ofString "ranges") = some (.ref G)) (hW : TLs s.heap W (fun i => wd (X i)) 8) (hG : RGs s.heap G l) (hl8 : l.length ≤ 8) (hlt : ∀ p ∈ l, p.1 < 8 ∧ p.2 < 8)
    (htst : Tst prog w A s₁ m cm pm cd X W tst kp)
    (hsw : swapsWith (.ListComp (.Compare (.ListComp (.Name (Str.ofString "first") p1) [⟨.Tuple [.Name (Str.ofString "first") p2, .Name (Str.ofString "behind") p3] 0 p4, .Name (Str.ofString "ranges") p5, [tst], 0⟩] scF p6) [.Eq] [.List [] p7] p8) [⟨.Name (Str.ofString "k") p9, .Call (.Name (Str.ofString "range") p10) [.Constant (.int 8) 0 p11] [] p12, [], 0⟩] scK p13) (some (.Name y py)) p13.line (lEnv s₁.heap.objs.size pm cd) = pure true)
    (h : ∀ D s', LS prog w s₁ (fun z => if z = y then some (.ref D) else m z) cm s' → Lk s.heap s'.heap → BLs s'.heap D (fun k => decide ((l.filter (kp k)).length = 0)) 8 → Q .next s') {sp : Pos} (hsp : sp.line = p13.line) :
    wpAny (model prog w) A (exec (.Assign [.Name y py] (.ListComp (.Compare (.ListComp (.Name (Str.ofString "first") p1) [⟨.Tuple [.Name (Str.ofString "first") p2, .Name (Str.ofString "behind") p3] 0 p4, .Name (Str.ofString "ranges") p5, [tst], 0⟩] scF p6) [.Eq] [.List [] p7] p8)
      [⟨.Name (Str.ofString "k") p9, .Call (.Name (Str.ofString "range") p10) [.Constant (.int 8) 0 p11] [] p12, [], 0⟩] scK p13) sp) (lEnv s₁.heap.objs.size pm cd)) Q E s := by
  refine asgR (m := m) (cm := cm) (cl := [(Str.ofString "worths", s₁.heap.objs.size + 2), (Str.ofString "ranges", s₁.heap.objs.size + 4)]) (n := 8) (by rw [hsp]; exact hsw) hy rfl rfl (by decide +kernel) hh (by decide) (by decide) (by decide) ?_
  refine range8 x.gl fun S r t u v kS hr => ?_
  have xS := x.kg kS
  refine ⟨xS, r, t, u, v, rfl, hr, fun _ => true, fun i y h => y = .bool (decide ((l.filter (kp i)).length = 0)), fun i y h h' q _ => q, ?_, fun ys s' D M => ?_⟩
  · refine turnT (setsC rfl rfl rfl rfl) fun i s' hi kg hN hown E' => ifs0 ⟨Kg.refl, rfl, fun _ => ?_⟩
    obtain ⟨v, ⟨tv, hv⟩, hc⟩ := hN
    rw [Int.zero_add] at hv
    subst hv
    have k' : Kg s s' := kS.trans kg
    have x' := x.kg k'
    have W' := k'.lk.tls hW
    obtain ⟨vs, hlG, hvn, hvi⟩ := rgs_size (k'.lk.rgs hG)
    refine wpAny_Compare1 (lcA (cl := [(Str.ofString "worths", s₁.heap.objs.size + 2), (Str.ofString "k", S.heap.objs.size + 3)]) rfl rfl (by decide +kernel) hh ?_)
    refine x'.nm hg (c := s₁.heap.objs.size + 4) rfl rfl ⟨G, _, rfl, hlG, by rw [List.size_toArray, hvn, sizeLine_eq]; omega, fun j => kp i (l.getD j (0, 0)), fun j y _ => ∃ p, l[j]? = some p ∧ True, fun i y h h' q _ => q, ?_, fun ys s₄ D' M => ?_⟩
    · refine turnT (sets2 (PP := fun j va vb => ∃ p t u, l[j]? = some p ∧ va = .int (p.1 : Nat) t ∧ vb = .int (p.2 : Nat) u) hh rfl rfl (by decide) rfl fun j v hv => ?_) fun j s'' hj kg' hN' hown' E'' => ?_
      · obtain ⟨p, b, t, u, hp, e, hb⟩ := hvi j v (by simpa using hv)
        exact ⟨b, _, _, e, hb, p, t, u, hp, rfl, rfl⟩
      · obtain ⟨va, vb, mm, ⟨p, t, u, hp, rfl, rfl⟩, hn, hm1, hm2⟩ := hN'
        have hlp := hlt p (List.mem_of_getElem? hp)
        refine ifs1 (htst i S.heap.objs.size s'.heap.objs.size s'' mm p t u tv _ _ hi hlp.1 hlp.2 (x'.kg kg') hn hm1 hm2 (kg'.cell hc) (kg'.lk.tls W') ⟨Kg.refl, ?_, fun _ => nmL hn hm1 ⟨Kg.refl, p, hp, trivial⟩⟩)
        have : l.getD j (0, 0) = p := by simp [hp]
        rw [this]
    · have al := all2_filter (R := fun (_ : Nat × Nat) (_ : Value) => True) (kp := kp i) (0, 0) (by rw [List.size_toArray, hvn]) M.all
      have hlen := al.length
      refine wpAny_List (wpAny_items_nil ⟨by size_fits, ?_⟩)
      refine empty_eq (Heap.IsList.push M.list _) ⟨_, Heap.get?_push_size _ rfl, rfl, _, rfl⟩ rfl (by omega) ⟨M.kg.trans ⟨fun b o e => Heap.get?_push_of_some _ e, rfl, fun q => q⟩, ?_⟩
      rw [List.size_toArray, ← hlen]
  · obtain ⟨hlen, hall⟩ := all2_range M.all
    refine h D s' M.ls (kS.lk.trans M.lk) ⟨ys.toArray, M.list, by rw [List.size_toArray, hlen], fun i hi => ?_⟩
    obtain ⟨y, hy, rfl⟩ := hall i hi
    simpa using hy
end
end Mine
end

section
open PySem PySem.W PyProof.Rows PySem.SeqAt PySem.Calls
set_option Elab.async false
set_option maxRecDepth 100000
namespace Mine

def kpD (X : Nat → Int) (k : Nat) (p : Nat × Nat) : Bool := decide (rk (X p.1) ≤ rk (X k)) && decide (rk (X k) < rk (X p.2))
def kpN (X : Nat → Int) (k : Nat) (p : Nat × Nat) : Bool := decide (rk (X p.1) ≤ rk (X k))
def lamT (i : Nat) : Expr := match lS i with | .Assign _ (.ListComp (.Compare (.ListComp _ [⟨_, _, [t], _⟩] _ _) _ _ _) _ _ _) _ => t | _ => .Name Str.empty default

section
variable {prog : Program} {w : World} {A : Around} {E : Value → Shared → Prop} {s₁ s : Shared} {m cm : Str → Option Value} {pm cd : Value}

theorem tst_due {W : Addr} {X : Nat → Int} (hu : A.units + 5 < cLine) (hw : cm (Str.ofString "worths") = some (.ref W)) : Tst prog w A s₁ m cm pm cd X W (lamT 10) (kpD X) := by
  intro i I J s mm p t u v Q E hi h1 h2 x hn hm1 hm2 hc hW hq
  refine isTrue_chain (sub_ (x.nm hw (c := s₁.heap.objs.size + 2) rfl rfl (nmL hn hm1 (tls_item hW h1 fun b1 us1 l1 u1 => ?_))))
  refine test_link (sub_ (x.nm hw (c := s₁.heap.objs.size + 2) rfl rfl (nmC (c := I + 3) rfl hc (tls_item hW hi fun b2 us2 l2 u2 => ?_))))
  refine list_ord (le := true) l1 l2 u1 u2 (wd_lex true _ _) (by omega) (wpAny_truthy_bool ?_)
  by_cases ha : rk (X p.1) ≤ rk (X i)
  · rw [show ordC true (rk (X p.1)) (rk (X i)) = true from decide_eq_true ha, if_pos rfl]
    refine test_last (sub_ (x.nm hw (c := s₁.heap.objs.size + 2) rfl rfl (nmL hn hm2 (tls_item hW h2 fun b3 us3 l3 u3 => ?_))))
    refine list_ord (le := false) l2 l3 u2 u3 (wd_lex false _ _) (by omega) (wpAny_truthy_bool ?_)
    have : kpD X i p = ordC false (rk (X i)) (rk (X p.2)) := by unfold kpD; rw [decide_eq_true ha, Bool.true_and]; rfl
    rw [this] at hq
    exact hq
  · rw [show ordC true (rk (X p.1)) (rk (X i)) = false from decide_eq_false ha, if_neg (by simp)]
    have : kpD X i p = false := by unfold kpD; rw [decide_eq_false ha, Bool.false_and]
    rw [this] at hq
    exact hq

theorem tst_none {W : Addr} {X : Nat → Int} (hu : A.units + 5 < cLine) (hw : cm (Str.ofString "worths") = some (.ref W)) : Tst prog w A s₁ m cm pm cd X W (lamT 11) (kpN X) := by
  intro i I J s mm p t u v Q E hi h1 h2 x hn hm1 hm2 hc hW hq
  refine wpAny_isTrue_Compare1 (sub_ (x.nm hw (c := s₁.heap.objs.size + 2) rfl rfl (nmL hn hm1 (tls_item hW h1 fun b1 us1 l1 u1 => ?_))))
  refine sub_ (x.nm hw (c := s₁.heap.objs.size + 2) rfl rfl (nmC (c := I + 3) rfl hc (tls_item hW hi fun b2 us2 l2 u2 => ?_)))
  refine list_ord (le := true) l1 l2 u1 u2 (wd_lex true _ _) (by omega) (wpAny_truthy_bool ?_)
  exact hq

theorem law10 {W G : Addr} {X : Nat → Int} {Q : Flow → Shared → Prop} (hh : A.handled = none) (hu : A.units + 5 < cLine) (x : LS prog w s₁ m cm s) (hw : cm (Str.ofString "worths") = some (.ref W)) (hg : cm (Str.ofString "ranges") = some (.ref G)) (hW : TLs s.heap W (fun i => wd (X i)) 8) (hG : RGs s.heap G (rngs X))
    (h : ∀ D s', LS prog w s₁ (fun z => if z = Str.ofString "due" then some (.ref D) else m z) cm s' → Lk s.heap s'.heap → BLs s'.heap D (fun k => decide (((rngs X).filter (kpD X k)).length = 0)) 8 → Q .next s') :
    wpAny (model prog w) A (exec (lS 10) (lEnv s₁.heap.objs.size pm cd)) Q E s :=
  in_none (tst := lamT 10) rfl hh hu x hw hg hW hG (by have := rngs_len (X := X); omega) rngs_lt (tst_due hu hw) rfl h rfl

theorem law11 {W G : Addr} {X : Nat → Int} {Q : Flow → Shared → Prop} (hh : A.handled = none) (hu : A.units + 5 < cLine) (x : LS prog w s₁ m cm s) (hw : cm (Str.ofString "worths") = some (.ref W)) (hg : cm (Str.ofString "ranges") = some (.ref G)) (hW : TLs s.heap W (fun i => wd (X i)) 8) (hG : RGs s.heap G (rngs X))
    (h : ∀ D s', LS prog w s₁ (fun z => if z = Str.ofString "none" then some (.ref D) else m z) cm s' → Lk s.heap s'.heap → BLs s'.heap D (fun k => decide (((rngs X).filter (kpN X k)).length = 0)) 8 → Q .next s') :
    wpAny (model prog w) A (exec (lS 11) (lEnv s₁.heap.objs.size pm cd)) Q E s :=
  in_none (tst := lamT 11) rfl hh hu x hw hg hW hG (by have := rngs_len (X := X); omega) rngs_lt (tst_none hu hw) rfl h rfl
end
end Mine
end

section
open PySem PySem.W PyProof.Rows PySem.SeqAt PySem.Calls
set_option Elab.async false
set_option maxRecDepth 100000
namespace Mine

section
variable {prog : Program} {w : World} {A : Around} {E : Value → Shared → Prop} {s₁ s : Shared} {m cm : Str → Option Value} {pm cd : Value}

theorem bools_eq {l b : Addr} {g g' : Nat → Bool} {n : Nat} {Q : Value → Shared → Prop} (hl : BLs s.heap l g n) (hb : BLs s.heap b g' n) (hg : ∀ i, i < n → g i = g' i) (hc : A.units < cLine) (h : Q (.bool true) s) :
    wpAny (model prog w) A (compareOp .Eq (.ref l) (.ref b)) Q E s := by
  obtain ⟨vs, l1, n1, i1⟩ := hl
  obtain ⟨us, l2, n2, i2⟩ := hb
  have key := RcAt.lists (A := A) (e := fun _ => true) l1 l2 (n1.trans n2.symm) hc fun j h1 h2 => by
    have e1 := i1 j (by omega)
    have e2 := i2 j (by omega)
    rw [Array.getElem?_eq_getElem h1] at e1
    rw [Array.getElem?_eq_getElem h2] at e2
    rw [Option.some.inj e1, Option.some.inj e2, hg j (by omega)]
    simpa using EqAt.bool_bool (A := A.in1) (s := s) (g' j) (g' j)
  rw [all_true] at key
  exact EqBoolInt.of_rc key h

set_option maxHeartbeats 2000000 in
/-- the answer -/
theorem law12 {Da Dd Dn : Addr} {gA gD gN : Nat → Bool} {Q : Flow → Shared → Prop} (hh : A.handled = none) (hu : A.units + 5 < cLine) (x : LS prog w s₁ m cm s) (ha : m (Str.ofString "answers") = some (.ref Da)) (hd : m (Str.ofString "due") = some (.ref Dd)) (hn : m (Str.ofString "none") = some (.ref Dn))
    (lA : BLs s.heap Da gA 16) (lD : BLs s.heap Dd gD 8) (lN : BLs s.heap Dn gN 8) (h1 : ∀ i, i < 8 → gA i = gD i) (h2 : ∀ i, i < 8 → gA (i + 8) = gN i)
    (h : ∀ s', LS prog w s₁ m cm s' → Q (.ret (.bool true)) s') :
    wpAny (model prog w) A (exec (lS 12) (lEnv s₁.heap.objs.size pm cd)) Q E s := by
  refine wpAny_Return_some (wpAny_And2 ?_)
  obtain ⟨dv, ld, nd, iD⟩ := lD
  obtain ⟨nv, ln, nn, iN⟩ := lN
  refine wpAny_Compare1 (nmL x.ns ha (wpAny_BinOp (nmL x.ns hd (nmL x.ns hn (addL ld ln (by rw [nd, nn, sizeLine_eq]; omega) ?_)))))
  have k₁ : Kg s { s with heap := s.heap.push { cls := .type "list", data := .seq (dv ++ nv) } } := ⟨fun b o e => Heap.get?_push_of_some _ e, rfl, fun q => q⟩
  have lS : (s.heap.push { cls := .type "list", data := .seq (dv ++ nv) }).IsList s.heap.objs.size (dv ++ nv) := ⟨_, Heap.get?_push_size _ rfl, rfl, _, rfl⟩
  have x₁ := x.kg k₁
  have lA₁ := k₁.lk.bls lA
  refine bools_eq (g' := gA) (n := 16) lA₁ ⟨_, lS, by rw [Array.size_append, nd, nn], fun i hi => ?_⟩ (fun _ _ => rfl) (by omega) (wpAny_truthy_bool ?_)
  · by_cases q : i < 8
    · rw [Array.getElem?_append_left (by omega), iD i q, h1 i q]
    · rw [Array.getElem?_append_right (by omega), nd, iN (i - 8) (by omega), ← h2 (i - 8) (by omega), show i - 8 + 8 = i by omega]
  · rw [if_pos rfl]
    obtain ⟨av, la, na, ia⟩ := lA₁
    refine wpAny_Compare1 (lcA (cl := []) rfl rfl (by decide +kernel) hh (nmL x₁.ns ha ⟨Da, av, rfl, la, by rw [na]; decide, fun _ => false, fun _ _ _ => True, fun _ _ _ _ _ _ => trivial, ?_, fun ys s' D M => ?_⟩))
    · refine turnT (setsN rfl rfl) fun i s' hi kg hN hown E' => ?_
      obtain ⟨v, mm, hv, hn', hm'⟩ := hN
      rw [ia i (by omega)] at hv
      cases hv
      have x' := x₁.kg kg
      refine ifs1 (wpAny_isTrue_Compare1 (Call_ (nmB x'.gl (x := Str.ofString "type") (v := .type "type") (by decide +kernel) (PyProof.Rows.callWith_type1 (args_cons (nmL hn' hm' (args_nil ?_)))))))
      refine call_type_of (Tx := "bool") rfl (by decide) (nmB x'.gl (x := Str.ofString "bool") (v := .type "bool") (by decide +kernel) ?_)
      refine isnot_type_same (wpAny_truthy_bool ⟨Kg.refl, rfl, fun q => by cases q⟩)
    · have hlen : ys.length = 0 := by
        have := M.all.length
        rw [← this]
        unfold idx; simp
      refine wpAny_List (wpAny_items_nil ⟨by size_fits, ?_⟩)
      refine empty_eq (Heap.IsList.push M.list _) ⟨_, Heap.get?_push_size _ rfl, rfl, _, rfl⟩ rfl (by omega) ?_
      rw [decide_eq_true (show ys.toArray.size = 0 by simpa using hlen)]
      exact h _ (x₁.kg (M.kg.trans ⟨fun b o e => Heap.get?_push_of_some _ e, rfl, fun q => q⟩))
end
end Mine
end

section
open PySem PySem.W PyProof.Rows PySem.SeqAt PySem.Calls
set_option Elab.async false
set_option maxRecDepth 100000
namespace Mine

/-! The plain law of the brackets: no program in sight. -/

theorem chk_fwd {α : Type} (op : α → Bool) (row : List α) (hb : ∀ pre x suf, row = pre ++ x :: suf → op x = false → (pre ++ [x]).countP (fun p => !op p) ≤ pre.countP op) :
    ∀ (suf pre : List α), row = pre ++ suf → chk ((pre.countP op : Int) - (pre.countP (fun p => !op p) : Int)) (suf.map fun p => if op p = true then 40 else 41) = decide (row.countP op = row.countP fun p => !op p)
  | [], pre, h => by
    have e : row = pre := by rw [h, List.append_nil]
    subst e
    show ((_ : Int) == 0) = _
    rw [Bool.eq_iff_iff, beq_iff_eq, decide_eq_true_eq]
    omega
  | x :: suf, pre, h => by
    have ih := chk_fwd op row hb suf (pre ++ [x]) (by rw [h, List.append_assoc]; rfl)
    rw [← ih, List.map_cons]
    cases hx : op x with
    | true =>
      show chk (_ + 1) _ = _
      congr 1
      rw [List.countP_append, List.countP_append, List.countP_singleton, List.countP_singleton, hx]
      simp
      omega
    | false =>
      have q := hb pre x suf h hx
      rw [List.countP_append, List.countP_singleton, hx] at q
      simp only [Bool.not_false, if_true] at q
      show (if _ - 1 < 0 then false else chk (_ - 1) _) = _
      rw [if_neg (by omega)]
      congr 1
      rw [List.countP_append, List.countP_append, List.countP_singleton, List.countP_singleton, hx]
      simp
      omega

theorem chk_end : ∀ (l : List Nat) (o : Int), 0 ≤ o → chk o (l ++ [40]) = false
  | [], o, h => by
    show ((o + 1 : Int) == 0) = false
    rw [beq_eq_false_iff_ne]; omega
  | c :: l, o, h => by
    show (if c = 40 then chk (o + 1) (l ++ [40]) else if c = 41 then (if o - 1 < 0 then false else chk (o - 1) (l ++ [40])) else chk o (l ++ [40])) = false
    split
    · exact chk_end l _ (by omega)
    · split
      · split
        · rfl
        · exact chk_end l _ (by omega)
      · exact chk_end l _ h

theorem cnt_diff {α : Type} (a b : α → Bool) : ∀ (l : List α), (∀ p ∈ l, b p = true → a p = true) → l.countP a = l.countP b + l.countP (fun p => a p && !b p)
  | [], _ => rfl
  | x :: l, h => by
    have ih := cnt_diff a b l fun p hp => h p (.tail _ hp)
    have hx := h x (.head _)
    rw [List.countP_cons, List.countP_cons, List.countP_cons, ih]
    cases ha : a x <;> cases hb : b x
    · simp
    · rw [ha, hb] at hx; simp at hx
    · simp; omega
    · simp; omega

def opn (p : Nat × Str) : Bool := p.2 == Str.ofString "("
theorem opn_o (i : Nat) : opn (i, Str.ofString "(") = true := by unfold opn; exact beq_self_eq_true _
theorem opn_c (i : Nat) : opn (i, Str.ofString ")") = false := by show (Str.ofString ")" == Str.ofString "(") = false; decide +kernel

theorem pts_count (l : List (Nat × Nat)) (P : Nat × Str → Bool) : (ptsL l).countP P = l.countP (fun p => P (p.2, Str.ofString ")")) + l.countP (fun p => P (p.1, Str.ofString "(")) := by
  unfold ptsL
  rw [List.countP_append, List.countP_map, List.countP_map]
  rfl
theorem pts_sign {l : List (Nat × Nat)} {p : Nat × Str} (h : p ∈ ptsL l) : p.2 = Str.ofString ")" ∨ p.2 = Str.ofString "(" := by
  unfold ptsL at h
  rcases List.mem_append.mp h with h | h
  · obtain ⟨q, _, rfl⟩ := List.mem_map.mp h; exact .inl rfl
  · obtain ⟨q, _, rfl⟩ := List.mem_map.mp h; exact .inr rfl

theorem rngs_rk {X : Nat → Int} : ∀ p ∈ rngs X, rk (X p.1) < rk (X p.2) := by
  intro p hp
  unfold rngs at hp
  obtain ⟨i, hi, rfl⟩ := List.mem_map.mp hp
  have hk : rgKeep X i = true := by unfold idx at hi; exact (List.mem_filter.mp hi).2
  unfold rgKeep at hk
  have hne : ¬ rk (X (2 * i)) = rk (X (2 * i + 1)) := by simpa using hk
  unfold rg
  split
  · assumption
  · show rk (X (2 * i + 1)) < rk (X (2 * i)); omega

section
variable {X : Nat → Int} {l : List (Nat × Nat)} {lst : List (Nat × Str)}

theorem row_count (la : Laid X (ptsL l) lst) (k : Nat) (P : Nat × Str → Bool) : (rowL X lst k).countP P = (ptsL l).countP fun p => P p && decide (rk (X p.1) ≤ rk (X k)) := by
  unfold rowL
  rw [List.countP_filter]
  exact la.perm.countP_eq _

theorem row_opens (la : Laid X (ptsL l) lst) (k : Nat) (P : Int → Bool) : (rowL X lst k).countP (fun p => opn p && P (rk (X p.1))) = l.countP fun p => P (rk (X p.1)) && decide (rk (X p.1) ≤ rk (X k)) := by
  rw [row_count la, pts_count]
  simp only [opn_o, opn_c, Bool.false_and, Bool.true_and]
  simp
theorem row_closes (la : Laid X (ptsL l) lst) (k : Nat) (P : Int → Bool) : (rowL X lst k).countP (fun p => !opn p && P (rk (X p.1))) = l.countP fun p => P (rk (X p.2)) && decide (rk (X p.2) ≤ rk (X k)) := by
  rw [row_count la, pts_count]
  simp only [opn_o, opn_c, Bool.not_true, Bool.not_false, Bool.false_and, Bool.true_and]
  simp

theorem row_sorted (la : Laid X (ptsL l) lst) (k : Nat) : (rowL X lst k).Pairwise fun a b => rk (X a.1) ≤ rk (X b.1) := la.sorted.filter _

theorem cnt_le {α : Type} {a b : α → Bool} : ∀ {l : List α}, (∀ p ∈ l, a p = true → b p = true) → l.countP a ≤ l.countP b := fun {l} h => List.countP_mono_left h

theorem row_bal (la : Laid X (ptsL l) lst) (hr : ∀ p ∈ l, rk (X p.1) < rk (X p.2)) (k : Nat) : ∀ pre x suf, rowL X lst k = pre ++ x :: suf → opn x = false → (pre ++ [x]).countP (fun p => !opn p) ≤ pre.countP opn := by
  intro pre x suf e hx
  have so := row_sorted la k
  rw [e, List.pairwise_append] at so
  obtain ⟨s1, s2, s3⟩ := so
  have up : ∀ p ∈ pre ++ [x], rk (X p.1) ≤ rk (X x.1) := fun p hp => by
    rcases List.mem_append.mp hp with hp | hp
    · exact s3 p hp x (.head _)
    · rw [List.mem_singleton.mp hp]; exact Int.le_refl _
  have dn : ∀ p ∈ x :: suf, rk (X x.1) ≤ rk (X p.1) := fun p hp => by
    rcases List.mem_cons.mp hp with rfl | hp
    · exact Int.le_refl _
    · exact (List.pairwise_cons.mp s2).1 p hp
  have h1 : (pre ++ [x]).countP (fun p => !opn p) ≤ (pre ++ [x]).countP (fun p => !opn p && decide (rk (X p.1) ≤ rk (X x.1))) := cnt_le fun p hp q => by
    rw [q, decide_eq_true (up p hp)]; rfl
  have h2 : (pre ++ [x]).countP (fun p => !opn p && decide (rk (X p.1) ≤ rk (X x.1))) ≤ (rowL X lst k).countP (fun p => !opn p && decide (rk (X p.1) ≤ rk (X x.1))) := by
    rw [e, show pre ++ x :: suf = (pre ++ [x]) ++ suf by simp, List.countP_append (l₁ := pre ++ [x])]; omega
  have h3 := row_closes la k (fun r => decide (r ≤ rk (X x.1)))
  have h4 : l.countP (fun p => decide (rk (X p.2) ≤ rk (X x.1)) && decide (rk (X p.2) ≤ rk (X k))) ≤ l.countP (fun p => decide (rk (X p.1) < rk (X x.1)) && decide (rk (X p.1) ≤ rk (X k))) := cnt_le fun p hp q => by
    have := hr p hp
    simp only [Bool.and_eq_true, decide_eq_true_eq] at q ⊢
    omega
  have h5 := row_opens la k (fun r => decide (r < rk (X x.1)))
  have h6 : (rowL X lst k).countP (fun p => opn p && decide (rk (X p.1) < rk (X x.1))) = pre.countP (fun p => opn p && decide (rk (X p.1) < rk (X x.1))) := by
    rw [e, List.countP_append]
    have : (x :: suf).countP (fun p => opn p && decide (rk (X p.1) < rk (X x.1))) = 0 := by
      rw [List.countP_eq_zero]
      intro p hp q
      have := dn p hp
      simp only [Bool.and_eq_true, decide_eq_true_eq] at q
      omega
    rw [this, Nat.add_zero]
  have h7 : pre.countP (fun p => opn p && decide (rk (X p.1) < rk (X x.1))) ≤ pre.countP opn := cnt_le fun p _ q => by
    simp only [Bool.and_eq_true] at q
    exact q.1
  omega

/-- the signs as figures -/
def codes (row : List (Nat × Str)) : List Nat := row.map fun p => if opn p = true then 40 else 41

theorem chk_row (la : Laid X (ptsL l) lst) (hr : ∀ p ∈ l, rk (X p.1) < rk (X p.2)) (k : Nat) : chk 0 (codes (rowL X lst k)) = decide ((l.filter (kpD X k)).length = 0) := by
  have h := chk_fwd opn (rowL X lst k) (row_bal la hr k) (rowL X lst k) [] rfl
  have e : chk 0 (codes (rowL X lst k)) = decide ((rowL X lst k).countP opn = (rowL X lst k).countP fun p => !opn p) := h
  rw [e]
  have h1 := row_opens la k (fun _ => true)
  have h2 := row_closes la k (fun _ => true)
  simp only [Bool.and_true, Bool.true_and] at h1 h2
  rw [h1, h2]
  have h3 := cnt_diff (fun p : Nat × Nat => decide (rk (X p.1) ≤ rk (X k))) (fun p => decide (rk (X p.2) ≤ rk (X k))) l fun p hp q => by
    have := hr p hp
    simp only [decide_eq_true_eq] at q ⊢
    omega
  have h4 : l.countP (fun p => decide (rk (X p.1) ≤ rk (X k)) && !decide (rk (X p.2) ≤ rk (X k))) = (l.filter (kpD X k)).length := by
    rw [← List.countP_eq_length_filter]
    congr 1
    funext p
    unfold kpD
    rw [Bool.eq_iff_iff]
    simp only [Bool.and_eq_true, Bool.not_eq_true', decide_eq_true_eq, decide_eq_false_iff_not]
    omega
  rw [h4] at h3
  exact decide_eq_decide.mpr (by omega)

theorem chk_rev (la : Laid X (ptsL l) lst) (hr : ∀ p ∈ l, rk (X p.1) < rk (X p.2)) (k : Nat) : chk 0 (codes (rowL X lst k)).reverse = decide ((l.filter (kpN X k)).length = 0) := by
  have h1 := row_opens la k (fun _ => true)
  have h2 := row_closes la k (fun _ => true)
  simp only [Bool.and_true, Bool.true_and] at h1 h2
  have h4 : l.countP (fun p => decide (rk (X p.1) ≤ rk (X k))) = (l.filter (kpN X k)).length := by
    rw [← List.countP_eq_length_filter]; rfl
  have h5 : l.countP (fun p => decide (rk (X p.2) ≤ rk (X k))) ≤ l.countP (fun p => decide (rk (X p.1) ≤ rk (X k))) := cnt_le fun p hp q => by
    have := hr p hp
    simp only [decide_eq_true_eq] at q ⊢
    omega
  cases hrow : rowL X lst k with
  | nil =>
    rw [hrow] at h1 h2
    simp only [List.countP_nil] at h1 h2
    show ((0 : Int) == 0) = _
    rw [decide_eq_true (by omega)]
    rfl
  | cons x r =>
    have hx : opn x = true := by
      cases q : opn x with
      | true => rfl
      | false =>
        have := row_bal la hr k [] x r (by rw [hrow]; rfl) q
        rw [List.nil_append, List.countP_singleton, q] at this
        simp at this
    have hpos : 0 < (rowL X lst k).countP opn := by
      rw [hrow, List.countP_cons, hx]; simp
    rw [h1, h4] at hpos
    rw [decide_eq_false (by omega)]
    unfold codes
    rw [List.map_cons, hx, List.reverse_cons]
    exact chk_end _ 0 (Int.le_refl _)

/-- a row's text -/
theorem sign_code {p : Nat × Str} (h : p.2 = Str.ofString ")" ∨ p.2 = Str.ofString "(") : p.2.cps.toList = codes [p] := by
  show p.2.cps.toList = [if opn p = true then 40 else 41]
  rcases h with q | q
  · have : opn p = false := by unfold opn; rw [q]; decide +kernel
    rw [this, q]; decide +kernel
  · have : opn p = true := by unfold opn; rw [q]; exact beq_self_eq_true _
    rw [this, q]; decide +kernel
theorem join_codes : ∀ (row : List (Nat × Str)), (∀ p ∈ row, p.2 = Str.ofString ")" ∨ p.2 = Str.ofString "(") → (Str.join (Str.ofString "") (row.map Prod.snd)).cps.toList = codes row
  | [], _ => rfl
  | [p], h => sign_code (h p (.head _))
  | p :: q :: r, h => by
    have ih := join_codes (q :: r) fun a ha => h a (.tail _ ha)
    have h1 := sign_code (h p (.head _))
    show (p.2 ++ Str.ofString "" ++ Str.join (Str.ofString "") ((q :: r).map Prod.snd)).cps.toList = _
    rw [Str.cps_append, Str.cps_append, Array.toList_append, Array.toList_append, ih, h1]
    rfl
theorem row_codes (la : Laid X (ptsL l) lst) (k : Nat) : (rowS X lst k).cps.toList = codes (rowL X lst k) := by
  unfold rowS
  show (Builtin.Str.glued _ _).cps.toList = _
  rw [StrLaws.glued_eq_join]
  exact join_codes _ fun p hp => pts_sign (la.perm.mem_iff.mp (List.mem_filter.mp hp).1)

theorem row_signs (la : Laid X (ptsL l) lst) (k : Nat) : ∀ c ∈ (rowS X lst k).cps, c = 40 ∨ c = 41 := by
  intro c hc
  have hc' : c ∈ (rowS X lst k).cps.toList := by simpa using hc
  rw [row_codes la] at hc'
  unfold codes at hc'
  obtain ⟨p, _, rfl⟩ := List.mem_map.mp hc'
  split
  · exact .inl rfl
  · exact .inr rfl
theorem row_size (la : Laid X (ptsL l) lst) (k : Nat) : (rowS X lst k).length ≤ 2 * l.length := by
  have h := congrArg List.length (row_codes la k)
  have h1 : (rowL X lst k).length ≤ lst.length := List.length_filter_le _ _
  have h2 := la.perm.length_eq
  have h3 := ptsL_len l
  unfold codes at h
  rw [List.length_map] at h
  have : (rowS X lst k).length = (rowS X lst k).cps.toList.length := by simp [Str.length]
  omega

/-- the answers are as due -/
theorem ans_due (la : Laid X (ptsL l) lst) (hr : ∀ p ∈ l, rk (X p.1) < rk (X p.2)) : (∀ i, i < 8 → ansB (rowS X lst) i = decide ((l.filter (kpD X i)).length = 0)) ∧ ∀ i, i < 8 → ansB (rowS X lst) (i + 8) = decide ((l.filter (kpN X i)).length = 0) := by
  refine ⟨fun i hi => ?_, fun i hi => ?_⟩
  · unfold ansB
    rw [if_pos hi, row_codes la, chk_row la hr]
  · unfold ansB
    rw [if_neg (by omega), show i + 8 - 8 = i by omega, row_codes la, chk_rev la hr]
end
end Mine
end

section
open PySem PySem.W PyProof.Rows PySem.SeqAt PySem.Calls
set_option Elab.async false
set_option maxRecDepth 100000
namespace Mine

theorem law_body : fB 12 = [lS 0, lS 1, lS 2, lS 3, lS 4, lS 5, lS 6, lS 7, lS 8, lS 9, lS 10, lS 11, lS 12] := by rfl

section
variable {prog : Program} {w : World} {A : Around} {E : Value → Shared → Prop} {s : Shared}

set_option maxHeartbeats 2000000 in
/-- the law, from its call to its answer -/
theorem law_run {o : Obj} {pm cd : Value} {sc : Addr} {items : Array Value} {Q : Value → Shared → Prop} (hh : A.handled = none) (hfr : A.frames = some []) (hroom : A.depth + 7 < recursionLimit) (hu : A.units + 11 < cLine)
    (ho : s.heap.get? 84 = some o) (hd : o.data = .func (Calls.docDef (fN 12) (fA 12) (fB 12) (fS 12) pm cd .none))
    (hcd : s.heap.CodeRec cd (fN 12)) (G : Gl s.heap) (S : Stg prog w s.heap) (hlam : Lam s.heap cd) (hb : AllBare s.gens) (h85 : 85 ≤ s.heap.objs.size)
    (hl : s.heap.IsList sc items) (hi : AllInts items) (hz : items.size ≤ 1000)
    (h : ∀ s', OldK s.heap s'.heap → s'.os = s.os → AllBare s'.gens → Q (.bool true) s') :
    wpC (model prog w) A (call (.ref 84) [.ref sc]) Q E s := by
  refine law_enter (by omega) ho hd hcd G S hb h85 fun s₀ x₀ k₀ => ?_
  generalize hA : A.deeper (lEnv s.heap.objs.size pm cd) = B
  have hh' : B.handled = none := by rw [← hA]; exact hh
  have hfr' : B.frames = some [lEnv s.heap.objs.size pm cd] := by rw [← hA]; show A.frames.map _ = _; rw [hfr]; rfl
  have hroom' : B.depth + 5 < recursionLimit := by rw [← hA]; show A.depth + 1 + 5 < _; omega
  have hu' : B.units + 8 < cLine := by rw [← hA]; show A.units + 3 + 8 < _; omega
  have hu5 : B.units + 5 < cLine := by omega
  rw [law_body]
  have hslt : @LT.lt Nat _ sc s.heap.objs.size := by obtain ⟨o, e, _⟩ := hl; exact Heap.lt_size e
  have hl₀ : s₀.heap.IsList sc items := let ⟨o, e, r⟩ := hl; ⟨o, k₀ _ o e, r⟩
  refine wpC_stmt (law0 hh' x₀ (sc := sc) rfl hslt hl₀ hi hz fun a ns s1 x₁ l₁ n₁ i₁ => ?_)
  refine wpC_stmt (law1 hh' hroom' x₁ rfl l₁ n₁ i₁ fun b c s2 x₂ T₂ W₂ => ?_)
  refine wpC_execs_cons (law2 (X := xAt ns) hh' hfr' hroom' x₂ rfl T₂ fun t s3 x₃ k₃ T₃ => ?_)
  have lk₃ : Lk s2.heap s3.heap := fun b us _ q => by
    obtain ⟨o, e, r⟩ := id q
    refine (k₃ _ (Nat.le_refl _)).isList ⟨Heap.lt_size e, fun z => ?_⟩ q
    obtain ⟨_, n, d⟩ := r
    have z' : b = s.heap.objs.size + 3 := z
    subst z'
    exact noSeq_cell (x₂.cell (Str.ofString "told") _ rfl) o us n e d
  have W₃ := lk₃.tls W₂
  refine wpC_stmt (law3 (X := xAt ns) hh' hu5 x₃ rfl rfl T₃ W₃ fun D D0 D1 s4 x₄ k₄ l₄ o₀ o₁ => ?_)
  have T₄ := k₄.tls T₃
  have W₄ := k₄.tls W₃
  refine wpC_stmt (law4 hu5 x₄ rfl l₄ o₀ o₁ fun s5 k₅ => ?_)
  have x₅ := x₄.kg k₅
  have T₅ := k₅.lk.tls T₄
  have W₅ := k₅.lk.tls W₄
  refine wpC_stmt (law5 hh' hu5 x₅ rfl W₅ fun Gr s6 x₆ k₆ G₆ => ?_)
  have T₆ := k₆.tls T₅
  have W₆ := k₆.tls W₅
  refine wpC_stmt (law6 hh' x₆ rfl rfl T₆ G₆ fun P s7 x₇ k₇ P₇ => ?_)
  have T₇ := k₇.tls T₆
  have W₇ := k₇.tls W₆
  have G₇ := k₇.rgs G₆
  refine wpC_stmt (law7 hroom' hu' x₇ hlam rfl rfl P₇ fun D' lst s8 x₈ k₈ D₈ la => ?_)
  have T₈ := k₈.tls T₇
  have W₈ := k₈.tls W₇
  have G₈ := k₈.rgs G₇
  have l3 := rngs_len (X := xAt ns)
  have ln := la.perm.length_eq
  rw [ptsL_len] at ln
  refine wpC_stmt (law8 hh' hu5 x₈ rfl rfl T₈ D₈ (by omega) (fun p hp => ?_) fun R s9 x₉ k₉ R₉ => ?_)
  · rcases pts_sign (la.perm.mem_iff.mp hp) with q | q <;> rw [q] <;> decide +kernel
  have W₉ := k₉.tls W₈
  have G₉ := k₉.rgs G₈
  refine wpC_stmt (law9 hh' hroom' x₉ rfl R₉ (fun i _ => row_signs la i) (fun i _ => ?_) fun N s10 x₁₀ k₁₀ A₁₀ => ?_)
  · have := row_size la i
    rw [sizeLine_eq]; omega
  have W₁₀ := k₁₀.tls W₉
  have G₁₀ := k₁₀.rgs G₉
  refine wpC_stmt (law10 hh' hu5 x₁₀ rfl rfl W₁₀ G₁₀ fun Du s11 x₁₁ k₁₁ D₁₁ => ?_)
  have W₁₁ := k₁₁.tls W₁₀
  have G₁₁ := k₁₁.rgs G₁₀
  have A₁₁ := k₁₁.bls A₁₀
  refine wpC_stmt (law11 hh' hu5 x₁₁ rfl rfl W₁₁ G₁₁ fun No s12 x₁₂ k₁₂ N₁₂ => ?_)
  have A₁₂ := k₁₂.bls A₁₁
  have D₁₂ := k₁₂.bls D₁₁
  obtain ⟨e1, e2⟩ := ans_due la rngs_rk
  refine wpC_stmt (law12 hh' hu5 x₁₂ rfl rfl rfl A₁₂ D₁₂ N₁₂ e1 e2 fun s13 x₁₃ => ?_)
  exact h s13 x₁₃.old x₁₃.os x₁₃.bare
end
end Mine
end

section
open PySem PySem.W PyProof.Rows PySem.SeqAt PySem.Calls
set_option Elab.async false
set_option maxRecDepth 100000
namespace Mine

/-! From the written heap of the top to the facts that the law leans on. -/

theorem ns_of {K : Frag} {h : Heap} {a : Addr} {m : Str → Option Value} {n : Str} {r : Option Value} (X : K.In h) (G : h.Ns a m) (e : nsIn K a n = some r) : m n = r := by
  obtain ⟨o, es, ep, ho, hd, _, hf⟩ := G
  cases q : K.lookup a with
  | none => unfold nsIn at e; rw [q] at e; cases e
  | some o' =>
    have q' := X _ _ q
    rw [ho] at q'
    cases q'
    obtain ⟨c, d, dt, sl⟩ := o
    dsimp only at hd
    subst hd
    unfold nsIn at e
    rw [q] at e
    dsimp only at e
    rw [← hf]
    unfold nsFind findBy
    rw [← Array.find?_toList]
    cases z : es.toList.find? (fun x => x.key.isStr n) with
    | some y => rw [z] at e; exact Option.some.inj e
    | none =>
      rw [z] at e
      dsimp only at e
      split at e
      · cases e
      · exact Option.some.inj e

/-- a field of a record in the written heap -/
def fieldK (K : Frag) (k j : Nat) : Option Value := match K.lookup k with | some ⟨_, _, .fields vs, _⟩ => vs[j]? | _ => none
theorem fieldK_get {K : Frag} {h : Heap} {k j : Nat} {v : Value} (X : K.In h) (e : fieldK K k j = some v) : ∃ o vs, h.get? k = some o ∧ o.data = .fields vs ∧ vs[j]? = some v := by
  unfold fieldK at e
  split at e
  · rename_i c d vs sl q
    exact ⟨_, vs, X _ _ q, rfl, e⟩
  · cases e

/-- a def of the text in the written heap -/
structure FnK (K : Frag) (i a : Nat) (pm : Value) (k t : Nat) : Prop where
  fn : K.lookup a = some { cls := .type "function", data := .func (Calls.docDef (fN i) (fA i) (fB i) (fS i) pm (.ref k) .none) }
  code : fieldK K k 1 = some (.str (fN i) t)
theorem FnK.codeRec {K : Frag} {h : Heap} {i a k t : Nat} {pm : Value} (X : K.In h) (f : FnK K i a pm k t) : h.CodeRec (.ref k) (fN i) := by
  obtain ⟨o, vs, e, d, v⟩ := fieldK_get X f.code
  exact ⟨k, o, vs, t, rfl, e, d, v⟩
theorem FnK.at {K : Frag} {h : Heap} {i a k t : Nat} {pm : Value} (X : K.In h) (f : FnK K i a pm k t) (hk : k < 85) : FnAt h i a := ⟨_, pm, k, X _ _ f.fn, rfl, rfl, f.codeRec X, hk⟩

/-- the entries of the stages' table -/
def stTok : List (Str × Int × Nat) := [(Str.ofString "dev", 10, 365), (Str.ofString "alpha", 20, 367), (Str.ofString "a", 20, 369), (Str.ofString "beta", 30, 371), (Str.ofString "b", 30, 373), (Str.ofString "c", 40, 375), (Str.ofString "RC", 50, 377), (Str.ofString "rc", 50, 379), (Str.ofString "pl", 200, 381), (Str.ofString "p", 200, 383)]
def stEnts (P : Params) : Array DictEntry := (stTok.map fun p => ({ hash := PyData.keyHash P p.1, key := .str p.1 p.2.2, val := .int p.2.1 (p.2.2 + 1) } : DictEntry)).toArray
def stFind (x : Str) : Option Value := ((stTok.map fun p => (p.1, Value.int p.2.1 (p.2.2 + 1))).find? fun p => p.1 == x).map Prod.snd

theorem stages_of {prog : Program} {w : World} {K : Frag} {h : Heap} {n : Nat} (X : K.In h) (e : K.lookup 58 = some { cls := .type "dict", data := .dict (stEnts w.params) n }) : Stg prog w h := by
  refine ⟨fun k => findBy (strKind prog w).is (stEnts w.params) k, ⟨_, _, _, X _ _ e, ⟨rfl, rfl, rfl⟩, rfl, fun e he => ?_, fun k => rfl⟩, fun p hp => ?_⟩
  · unfold stEnts at he
    obtain ⟨q, _, rfl⟩ := List.mem_map.mp (List.mem_toArray.mp he)
    exact ⟨q.1, strKind_is prog w _ _, rfl⟩
  · have key : ∀ x : Str, findBy (strKind prog w).is (stEnts w.params) x = stFind x := fun x => by
      unfold findBy stEnts stFind
      rw [← Array.find?_toList, List.toList_toArray, List.find?_map, List.find?_map, Option.map_map, Option.map_map]
      have q : ((fun e : DictEntry => (strKind prog w).is x e.key) ∘ fun p : Str × Int × Nat => ({ hash := PyData.keyHash w.params p.1, key := .str p.1 p.2.2, val := .int p.2.1 (p.2.2 + 1) } : DictEntry)) = ((fun p : Str × Value => p.1 == x) ∘ fun p : Str × Int × Nat => (p.1, Value.int p.2.1 (p.2.2 + 1))) := by
        funext p
        show Value.isStrOf x (.str p.1 p.2.2) = (p.1 == x)
        rw [Bool.eq_iff_iff]
        simp [Value.isStrOf]
      rw [q]
      rfl
    show ∃ t, findBy (strKind prog w).is (stEnts w.params) p.1 = some (.int p.2 t)
    rw [key]
    have all : stageTab.map (fun p => stFind p.1) = (stTok.map fun p => some (Value.int p.2.1 (p.2.2 + 1))) := by decide +kernel
    have two : stageTab.map Prod.snd = stTok.map (fun p => p.2.1) := by decide +kernel
    obtain ⟨i, hi⟩ := List.mem_iff_getElem?.mp hp
    have a1 := congrArg (fun l => l[i]?) all
    have a2 := congrArg (fun l => l[i]?) two
    simp only [List.getElem?_map, hi, Option.map_some] at a1 a2
    cases z : stTok[i]? with
    | none => rw [z] at a1; cases a1
    | some y =>
      rw [z] at a1 a2
      simp only [Option.map_some, Option.some.injEq] at a1 a2
      exact ⟨_, by rw [a1, a2]⟩

/-- what the written heap holds -/
structure KF (K : Frag) (P : Params) : Prop where
  names : globTab.map (fun p => nsIn K mainGlobals p.1) = globTab.map fun p => some (some p.2)
  none : builtTab.map (fun p => nsIn K mainGlobals p.1) = builtTab.map fun _ => some Option.none
  built : builtTab.map (fun p => nsIn K builtinsNs p.1) = builtTab.map fun p => some (some p.2)
  f2 : FnK K 2 38 (.str (Str.ofString "cpy313.email.utils") 282) 37 285
  f3 : FnK K 3 45 (.str (Str.ofString "cpy313.email.utils") 282) 44 295
  f4 : FnK K 4 52 (.str (Str.ofString "cpy313.email.utils") 282) 51 307
  f8 : FnK K 8 65 (.str (Str.ofString "cpy313.platform") 316) 64 397
  f10 : FnK K 10 72 (.str (Str.ofString "law_pe0072_01") 407) 71 410
  f11 : FnK K 11 79 (.str (Str.ofString "law_pe0072_01") 407) 78 418
  f12 : FnK K 12 84 (.str (Str.ofString "law_pe0072_01") 407) 83 426
  re : K.lookup 57 = some { cls := .type "re.Pattern", data := .fields #[.str (Str.ofString "([0-9]+|[._+-])") 319, .int 32 363, .int 1 0, .none, .none, .ref 56, .int 0 0] }
  code : K.lookup 56 = some { cls := .type "tuple", data := .seq reCode }
  stages : K.lookup 58 = some { cls := .type "dict", data := .dict (stEnts P) 10 }
  tab : K.lookup 81 = some (tabObj #[])
  law : K.lookup 83 = some { cls := .type "code", data := .fields #[.str (Str.ofString "law") 425, .str (Str.ofString "law") 426, .str (Str.ofString "/claim/cut.py") 427, .int 67 0, .int 1 0, .int 0 0, .int 0 0, .int 3 0, .ref 80, .bool true, .int 276 0, .ref 81, .none, .none, .none, .ref 82, .int 428 0, .int 67 0, .str (Str.ofString "/claim/cut.py") 429] }

theorem map_at {α β : Type} {f g : α → β} {l : List α} (h : l.map f = l.map g) : ∀ a ∈ l, f a = g a := List.map_inj_left.mp h

section
variable {K : Frag} {h : Heap} {mg mb : Str → Option Value} {prog : Program} {w : World}
theorem gl_of (X : K.In h) (F : KF K w.params) (g : h.Ns mainGlobals mg) (b : h.Ns builtinsNs mb) (lim : h.NoLimit) (dig : ∃ mc, h.Ns cStatics mc ∧ mc "sys.int_max_str_digits" = none) : Gl h where
  names := ⟨mg, mb, g, b, fun p hp => ns_of X g (map_at F.names p hp), fun p hp => ⟨ns_of X g (map_at F.none p hp), ns_of X b (map_at F.built p hp)⟩⟩
  lim := lim
  digits := dig
  f2 := F.f2.at X (by decide)
  f3 := F.f3.at X (by decide)
  f4 := F.f4.at X (by decide)
  f8 := F.f8.at X (by decide)
  f10 := F.f10.at X (by decide)
  f11 := F.f11.at X (by decide)
  re := ⟨_, _, _, X _ _ F.re⟩
  code := X _ _ F.code

theorem lam_of (X : K.In h) (F : KF K w.params) (g : h.Ns mainGlobals mg) (bm : ∃ bm ob, mg "__builtins__" = some (.ref bm) ∧ bm ≠ builtinsNs ∧ h.get? bm = some ob ∧ ob.cls = .type "module" ∧ ob.dict = some builtinsNs ∧ ob.data = .plain) : Lam h (.ref 83) := by
  refine ⟨83, 81, mg, rfl, ⟨_, _, _, _, _, _, _, _, _, X _ _ F.law, rfl, rfl, rfl, rfl, rfl, rfl, rfl, rfl, by decide⟩, X _ _ F.tab, g, ?_, by decide, by decide, by decide, by decide⟩
  obtain ⟨a, ob, e1, e2, e3, e4, e5, e6⟩ := bm
  refine ⟨a, ob, e1, e2, fun q => ?_, fun q => ?_, e3, e4, e5, e6⟩
  · subst q
    obtain ⟨o, es, ep, e, d, _⟩ := g
    rw [e] at e3; cases e3
    rw [d] at e6; cases e6
  · subst q
    rw [X _ _ F.tab] at e3; cases e3
    cases e4

/-- the law, called in what the top left -/
theorem law_top {s : Shared} {sc : Addr} {items : Array Value} {Q : Value → Shared → Prop} {E : Value → Shared → Prop} (X : K.In s.heap) (F : KF K w.params) (g : s.heap.Ns mainGlobals mg) (b : s.heap.Ns builtinsNs mb) (lim : s.heap.NoLimit) (dig : ∃ mc, s.heap.Ns cStatics mc ∧ mc "sys.int_max_str_digits" = none)
    (bm : ∃ bm ob, mg "__builtins__" = some (.ref bm) ∧ bm ≠ builtinsNs ∧ s.heap.get? bm = some ob ∧ ob.cls = .type "module" ∧ ob.dict = some builtinsNs ∧ ob.data = .plain) (hb : s.gens = #[])
    (hl : s.heap.IsList sc items) (hi : AllInts items) (hz : items.size ≤ 1000) (h : ∀ s', OldK s.heap s'.heap → s'.os = s.os → AllBare s'.gens → Q (.bool true) s') :
    wpC (model prog w) callerA (call (.ref 84) [.ref sc]) Q E s :=
  law_run rfl rfl (by decide) (by decide) (X _ _ F.f12.fn) rfl (F.f12.codeRec X) (gl_of X F g b lim dig) (stages_of X F.stages) (lam_of X F g bm) (AllBare.of_eq hb) (Nat.succ_le_of_lt (Heap.lt_size (X _ _ F.f12.fn))) hl hi hz h
end
end Mine
end

section
open PySem PySem.W PyProof.Rows PySem.SeqAt PySem.Calls
set_option Elab.async false
namespace Mine
theorem ints_len : ∀ {vs : List Value} {ns : List Int}, IntsAre vs ns → vs.length = ns.length
  | _, _, .nil => rfl
  | _, _, .cons _ _ r => congrArg (· + 1) (ints_len r)

set_option maxRecDepth 100000 in
set_option maxHeartbeats 8000000 in
theorem head_holds : PySem.Challenge.rw_pe0072_01.Holds := by
  w_on; o_law; x_head
  (case hw => w_witness2)
  k_fill
  intro w s₀ s₁ mg mb G Y fa o pm cd doc dV kV ho hd hcd hD hmg hg args vals as hpre hlay hrd hwl hlo
  have KX := kIn_of Y
  refine Ground.open G ?_
  intro T B D TE TW
  wrow_args hpre hlay hrd hwl hlo
  all_goals (
    x_fa T KX hmg
    rename IntsAre _ _ => hi
    rename Heap.IsList _ _ _ => hl
    have hlen := ints_len hi
    refine wpC_mono (law_top (E := fun _ _ => False) KX ⟨by kernel_rfl, by kernel_rfl, by kernel_rfl, ⟨by kernel_rfl, by kernel_rfl⟩, ⟨by kernel_rfl, by kernel_rfl⟩, ⟨by kernel_rfl, by kernel_rfl⟩, ⟨by kernel_rfl, by kernel_rfl⟩, ⟨by kernel_rfl, by kernel_rfl⟩, ⟨by kernel_rfl, by kernel_rfl⟩, ⟨by kernel_rfl, by kernel_rfl⟩, by kernel_rfl, by kernel_rfl, by kernel_rfl, by kernel_rfl, by kernel_rfl⟩ T.g T.b T.nolimit T.nodigits T.bmain hg hl hi.allInts ?_ fun s' ok os bare => ?_) (fun v s' q => q) (fun e s' q => q.elim)
    · rw [List.size_toArray]; omega
    · exact ⟨.inl ⟨_, .bool true, [], rfl, raisesW_false (by wrow_none_raised), .bool true, by wrow_post, unshared_nil⟩, ok, os, bare⟩)
end Mine
end

theorem PySem.Challenge.cw_pe0072_01_holds : PySem.Challenge.rw_pe0072_01.Holds := by
  exact Mine.head_holds
