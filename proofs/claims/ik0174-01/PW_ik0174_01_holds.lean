import PyProof.Rows.All
import Wide.All
import OpenK.AllK
import Wide.FinOn
import KE.KDictOf
import KE.KFromBytes
import KE.KDictList
import PyProof.ExcFactsAll.RuntimeError
import PyProof.ExcAttrAll.RuntimeError
import PySem.Challenge.RW_ik0174_01
set_option Elab.async false

section
open PySem PySem.W PyProof.Rows PySem.Calls
namespace Mine

noncomputable abbrev AP := Addr → Prop
noncomputable abbrev listO (vs : List Value) (n : Nat) : Obj := { cls := .type "list", data := .seq vs.toArray n }
noncomputable abbrev tupO (vs : List Value) (n : Nat) : Obj := { cls := .type "tuple", data := .seq vs.toArray n }
noncomputable abbrev dictO (es : List DictEntry) (n : Nat) : Obj := { cls := .type "dict", data := .dict es.toArray n }
noncomputable abbrev St (s : Shared) (h : Heap) (tk : Nat) : Shared := { s with heap := h, toks := tk }

mutual
noncomputable def Den (h : Heap) (X : AP) : PyData → Value → Prop
  | .none, v => v = .none
  | .bool b, v => v = .bool b
  | .int i, v => ∃ t, v = .int i t
  | .str x, v => ∃ t, v = .str x t
  | .list xs, v => ∃ a vs n, v = .ref a ∧ ¬ X a ∧ h.get? a = some (listO vs n) ∧ DenAll h X xs vs
  | .tuple xs, v => ∃ a vs n, v = .ref a ∧ ¬ X a ∧ h.get? a = some (tupO vs n) ∧ DenAll h X xs vs
  | .dict kvs, v => ∃ a es n, v = .ref a ∧ ¬ X a ∧ h.get? a = some (dictO es n) ∧ DenKv h X kvs es
noncomputable def DenAll (h : Heap) (X : AP) : List PyData → List Value → Prop
  | [], vs => vs = []
  | x :: xs, vs => ∃ v r, vs = v :: r ∧ Den h X x v ∧ DenAll h X xs r
noncomputable def DenKv (h : Heap) (X : AP) : List (PyData × PyData) → List DictEntry → Prop
  | [], es => es = []
  | (k, x) :: r, es => ∃ e q, es = e :: q ∧ Den h X k e.key ∧ Den h X x e.val ∧ DenKv h X r q
end

/-- what stands in h off X stands in h' off X' -/
noncomputable def Fits (h : Heap) (X : AP) (h' : Heap) (X' : AP) : Prop := ∀ a o, h.get? a = some o → ¬ X a → h'.get? a = some o ∧ ¬ X' a

mutual
theorem Den.mono {h h' : Heap} {X X' : AP} (f : Fits h X h' X') : ∀ {p : PyData} {v : Value}, Den h X p v → Den h' X' p v
  | .none, _, e => by unfold Den at *; exact e
  | .bool _, _, e => by unfold Den at *; exact e
  | .int _, _, e => by unfold Den at *; exact e
  | .str _, _, e => by unfold Den at *; exact e
  | .list xs, _, e => by
    unfold Den at *
    obtain ⟨a, vs, n, rfl, hx, ho, hd⟩ := e
    exact ⟨a, vs, n, rfl, (f a _ ho hx).2, (f a _ ho hx).1, DenAll.mono f hd⟩
  | .tuple xs, _, e => by
    unfold Den at *
    obtain ⟨a, vs, n, rfl, hx, ho, hd⟩ := e
    exact ⟨a, vs, n, rfl, (f a _ ho hx).2, (f a _ ho hx).1, DenAll.mono f hd⟩
  | .dict kvs, _, e => by
    unfold Den at *
    obtain ⟨a, vs, n, rfl, hx, ho, hd⟩ := e
    exact ⟨a, vs, n, rfl, (f a _ ho hx).2, (f a _ ho hx).1, DenKv.mono f hd⟩
theorem DenAll.mono {h h' : Heap} {X X' : AP} (f : Fits h X h' X') : ∀ {ps : List PyData} {vs : List Value}, DenAll h X ps vs → DenAll h' X' ps vs
  | [], _, e => by unfold DenAll at *; exact e
  | x :: xs, _, e => by
    unfold DenAll at *
    obtain ⟨v, r, rfl, h1, h2⟩ := e
    exact ⟨v, r, rfl, Den.mono f h1, DenAll.mono f h2⟩
theorem DenKv.mono {h h' : Heap} {X X' : AP} (f : Fits h X h' X') : ∀ {ps : List (PyData × PyData)} {vs : List DictEntry}, DenKv h X ps vs → DenKv h' X' ps vs
  | [], _, e => by unfold DenKv at *; exact e
  | (k, x) :: xs, _, e => by
    unfold DenKv at *
    obtain ⟨v, r, rfl, h1, h2, h3⟩ := e
    exact ⟨v, r, rfl, Den.mono f h1, Den.mono f h2, DenKv.mono f h3⟩
end


theorem DenAll.length {h : Heap} {X : AP} : ∀ {ps : List PyData} {vs : List Value}, DenAll h X ps vs → vs.length = ps.length
  | [], _, e => by unfold DenAll at e; subst e; rfl
  | x :: xs, _, e => by
    unfold DenAll at e
    obtain ⟨v, r, rfl, _, h2⟩ := e
    simp [DenAll.length h2]
theorem DenAll.get {h : Heap} {X : AP} : ∀ {ps : List PyData} {vs : List Value}, DenAll h X ps vs → ∀ (i : Nat) (p : PyData), ps[i]? = some p → ∃ v, vs[i]? = some v ∧ Den h X p v
  | [], _, e, i, p, hp => by simp at hp
  | x :: xs, _, e, i, p, hp => by
    unfold DenAll at e
    obtain ⟨v, r, rfl, h1, h2⟩ := e
    cases i with
    | zero => simp at hp; subst hp; exact ⟨v, by simp, h1⟩
    | succ i => simp at hp; obtain ⟨w, h3, h4⟩ := h2.get i p hp; exact ⟨w, by simpa using h3, h4⟩
theorem DenAll.get' {h : Heap} {X : AP} : ∀ {ps : List PyData} {vs : List Value}, DenAll h X ps vs → ∀ (i : Nat) (v : Value), vs[i]? = some v → ∃ p, ps[i]? = some p ∧ Den h X p v := by
  intro ps vs e i v hv
  have hl := e.length
  have hi : i < vs.length := (List.getElem?_eq_some_iff.mp hv).1
  have hp : ps[i]? = some (ps[i]'(by lia  )) := by simp
  obtain ⟨w, h1, h2⟩ := e.get i _ hp
  rw [hv] at h1; cases h1
  exact ⟨_, hp, h2⟩
theorem DenAll.append {h : Heap} {X : AP} : ∀ {ps qs : List PyData} {vs us : List Value}, DenAll h X ps vs → DenAll h X qs us → DenAll h X (ps ++ qs) (vs ++ us)
  | [], _, _, _, e, f => by unfold DenAll at e; subst e; exact f
  | x :: xs, qs, _, us, e, f => by
    unfold DenAll at e
    obtain ⟨v, r, rfl, h1, h2⟩ := e
    rw [List.cons_append]
    unfold DenAll
    exact ⟨v, r ++ us, rfl, h1, h2.append f⟩
theorem DenAll.drop {h : Heap} {X : AP} : ∀ {ps : List PyData} {vs : List Value}, DenAll h X ps vs → ∀ k, DenAll h X (ps.drop k) (vs.drop k)
  | _, _, e, 0 => by simpa using e
  | [], _, e, k + 1 => by unfold DenAll at e; subst e; simp [DenAll]
  | x :: xs, _, e, k + 1 => by
    unfold DenAll at e
    obtain ⟨v, r, rfl, h1, h2⟩ := e
    simpa using h2.drop k
theorem DenAll.take {h : Heap} {X : AP} : ∀ {ps : List PyData} {vs : List Value}, DenAll h X ps vs → ∀ k, DenAll h X (ps.take k) (vs.take k)
  | _, _, e, 0 => by simp [DenAll]
  | [], _, e, k + 1 => by unfold DenAll at e; subst e; simp [DenAll]
  | x :: xs, _, e, k + 1 => by
    unfold DenAll at e
    obtain ⟨v, r, rfl, h1, h2⟩ := e
    rw [List.take_succ_cons, List.take_succ_cons]
    unfold DenAll
    exact ⟨v, _, rfl, h1, h2.take k⟩
theorem DenAll.one {h : Heap} {X : AP} {p : PyData} {v : Value} (e : Den h X p v) : DenAll h X [p] [v] := by
  unfold DenAll; exact ⟨v, [], rfl, e, by unfold DenAll; rfl⟩
theorem DenAll.nil {h : Heap} {X : AP} : DenAll h X [] [] := by unfold DenAll; rfl
theorem DenAll.cons {h : Heap} {X : AP} {p : PyData} {v : Value} {ps : List PyData} {vs : List Value} (e : Den h X p v) (f : DenAll h X ps vs) : DenAll h X (p :: ps) (v :: vs) := by
  unfold DenAll; exact ⟨v, vs, rfl, e, f⟩
theorem DenAll.reverse {h : Heap} {X : AP} : ∀ {ps : List PyData} {vs : List Value}, DenAll h X ps vs → DenAll h X ps.reverse vs.reverse
  | [], _, e => by unfold DenAll at e; subst e; exact .nil
  | x :: xs, _, e => by
    unfold DenAll at e
    obtain ⟨v, r, rfl, h1, h2⟩ := e
    rw [List.reverse_cons, List.reverse_cons]
    exact h2.reverse.append (.one h1)

inductive LV where
  | p (d : PyData)
  | at (a : Addr)
  | refs (as : List Addr)
  | obj (P : Addr → Obj → Prop)
  | val (v : Value)
noncomputable abbrev LV.pin (o : Obj) : LV := .obj fun _ ob => ob = o
inductive OV where
  | lst (xs : List PyData)
  | raw (o : Obj)

noncomputable def LVden (h : Heap) (X : AP) : LV → Value → Prop
  | .p d, v => Den h X d v
  | .at a, v => v = .ref a
  | .refs as, v => ∃ b n, v = .ref b ∧ ¬ X b ∧ h.get? b = some (listO (as.map .ref) n)
  | .obj P, v => ∃ a ob, v = .ref a ∧ ¬ X a ∧ h.get? a = some ob ∧ P a ob
  | .val x, v => v = x
noncomputable def OVden (h : Heap) (X : AP) (a : Addr) : OV → Prop
  | .lst xs => ∃ vs n, h.get? a = some (listO vs n) ∧ DenAll h X xs vs
  | .raw o => h.get? a = some o

theorem LVden.mono {h h' : Heap} {X X' : AP} (f : Fits h X h' X') {lv : LV} {v : Value} (e : LVden h X lv v) : LVden h' X' lv v := by
  cases lv with
  | p d => exact Den.mono f e
  | «at» a => exact e
  | refs as => obtain ⟨b, n, h1, h2, h3⟩ := e; exact ⟨b, n, h1, (f b _ h3 h2).2, (f b _ h3 h2).1⟩
  | obj P => obtain ⟨b, ob, h1, h2, h3, h4⟩ := e; exact ⟨b, ob, h1, (f b _ h3 h2).2, (f b _ h3 h2).1, h4⟩
  | val x => exact e
theorem OVden.mono {h h' : Heap} {X X' : AP} (f : Fits h X h' X') {a : Addr} {ov : OV} (ha : ∀ o, h.get? a = some o → h'.get? a = some o) (e : OVden h X a ov) : OVden h' X' a ov := by
  cases ov with
  | lst xs => obtain ⟨vs, n, h1, h2⟩ := e; exact ⟨vs, n, ha _ h1, DenAll.mono f h2⟩
  | raw ob => exact ha _ e
theorem OVden.there {h : Heap} {X : AP} {a : Addr} {ov : OV} (e : OVden h X a ov) : ∃ o, h.get? a = some o := by
  cases ov with
  | lst xs => obtain ⟨vs, n, h1, _⟩ := e; exact ⟨_, h1⟩
  | raw ob => exact ⟨_, e⟩

/-- the fixed part of a frame: the heap at its entry, the addresses that its callers may change, the names whose cells are its own -/
structure Cx where
  prog : Program
  w : World
  env : Env
  g : Heap
  X : AP
  own : Str → Bool

noncomputable def slotV (env : Env) (m cm : Str → Option Value) (n : Str) : Option Value :=
  if env.kindOf n = some .local then m n else if (env.cells.lookup n).isSome then cm n else none

structure CfgI (c : Cx) (X : AP) (m cm : Str → Option Value) (d : List (Str × LV)) (o : List (Addr × OV)) (ts : List (Value × LV)) (h : Heap) : Prop where
  ns : h.Ns c.env.locals m
  cell : ∀ n a, c.env.cells.lookup n = some a → h.IsCell a (cm n)
  stays : ∀ a ob, c.g.get? a = some ob → h.get? a = some ob
  dom : ∀ a, X a → ∃ ob, h.get? a = some ob
  sub : ∀ a, c.X a → X a
  gL : c.g.get? c.env.locals = none
  XL : X c.env.locals
  XC : ∀ n a, c.env.cells.lookup n = some a → X a ∧ a ≠ c.env.locals
  gC : ∀ n a, c.env.cells.lookup n = some a → c.own n = true → c.g.get? a = none
  CC : c.env.cells.Pairwise (fun x y => x.2 ≠ y.2)
  vars : ∀ n lv, d.lookup n = some lv → ∃ v, slotV c.env m cm n = some v ∧ LVden h X lv v
  tmps : ∀ q ∈ ts, LVden h X q.2 q.1
  owns : ∀ q ∈ o, OVden h X q.1 q.2 ∧ X q.1 ∧ ¬ c.X q.1 ∧ c.g.get? q.1 = none ∧ q.1 ≠ c.env.locals ∧ ∀ n a, c.env.cells.lookup n = some a → a ≠ q.1
  nodup : (o.map (·.1)).Nodup

inductive Cfg (c : Cx) (d : List (Str × LV)) (o : List (Addr × OV)) (ts : List (Value × LV)) (h : Heap) : Prop
  | mk (X : AP) (m cm : Str → Option Value) (C : CfgI c X m cm d o ts h) : Cfg c d o ts h

theorem Fits.ext {h h' : Heap} {X : AP} (k : ∀ a o, h.get? a = some o → h'.get? a = some o) : Fits h X h' X := fun a o e n => ⟨k a o e, n⟩

section
variable {c : Cx} {X : AP} {m cm : Str → Option Value} {d : List (Str × LV)} {o : List (Addr × OV)} {ts : List (Value × LV)} {h h' : Heap}

theorem CfgI.ext (C : CfgI c X m cm d o ts h) (k : ∀ a o, h.get? a = some o → h'.get? a = some o) : CfgI c X m cm d o ts h' where
  ns := C.ns.keeps k
  cell := fun n a e => (C.cell n a e).keeps k
  stays := fun a ob e => k a ob (C.stays a ob e)
  dom := fun a e => let ⟨ob, q⟩ := C.dom a e; ⟨ob, k _ _ q⟩
  sub := C.sub
  gL := C.gL
  XL := C.XL
  XC := C.XC
  gC := C.gC
  CC := C.CC
  vars := fun n lv e => let ⟨v, a, b⟩ := C.vars n lv e; ⟨v, a, b.mono (.ext k)⟩
  tmps := fun q e => (C.tmps q e).mono (.ext k)
  owns := fun q e => ⟨(C.owns q e).1.mono (.ext k) fun o => k _ o, (C.owns q e).2⟩
  nodup := C.nodup

theorem CfgI.push {v : Value} {lv : LV} (C : CfgI c X m cm d o ts h) (e : LVden h X lv v) : CfgI c X m cm d o ((v, lv) :: ts) h :=
  { C with tmps := fun q hq => (List.mem_cons.mp hq).elim (fun r => by subst r; exact e) fun r => C.tmps q r }
theorem CfgI.sub_ts {ts' : List (Value × LV)} (C : CfgI c X m cm d o ts h) (e : ∀ q ∈ ts', q ∈ ts) : CfgI c X m cm d o ts' h :=
  { C with tmps := fun q hq => C.tmps q (e q hq) }
theorem Cfg.sub_ts {ts' : List (Value × LV)} (C : Cfg c d o ts h) (e : ∀ q ∈ ts', q ∈ ts) : Cfg c d o ts' h :=
  let ⟨X, m, cm, C⟩ := C; ⟨X, m, cm, C.sub_ts e⟩
theorem Cfg.ext (C : Cfg c d o ts h) (k : ∀ a o, h.get? a = some o → h'.get? a = some o) : Cfg c d o ts h' :=
  let ⟨X, m, cm, C⟩ := C; ⟨X, m, cm, C.ext k⟩
theorem CfgI.sub_d {d' : List (Str × LV)} (C : CfgI c X m cm d o ts h) (e : ∀ n lv, d'.lookup n = some lv → d.lookup n = some lv) : CfgI c X m cm d' o ts h :=
  { C with vars := fun n lv q => C.vars n lv (e n lv q) }
theorem Cfg.sub_d {d' : List (Str × LV)} (C : Cfg c d o ts h) (e : ∀ n lv, d'.lookup n = some lv → d.lookup n = some lv) : Cfg c d' o ts h :=
  let ⟨X, m, cm, C⟩ := C; ⟨X, m, cm, C.sub_d e⟩
theorem Cfg.sub_o {o' : List (Addr × OV)} (C : Cfg c d o ts h) (e : List.Sublist o' o) : Cfg c d o' ts h :=
  let ⟨X, m, cm, C⟩ := C; ⟨X, m, cm, { C with owns := fun q hq => C.owns q (e.subset hq), nodup := C.nodup.sublist (e.map _) }⟩
theorem Cfg.perm_o {o' : List (Addr × OV)} (C : Cfg c d o ts h) (e : o'.Perm o) : Cfg c d o' ts h :=
  let ⟨X, m, cm, C⟩ := C; ⟨X, m, cm, { C with owns := fun q hq => C.owns q (e.mem_iff.mp hq), nodup := (e.map _).nodup_iff.mpr C.nodup }⟩

/-- one address that is marked as unstable changes -/
theorem Fits.butE {a : Addr} (hs : Heap.ExtBut a h h') (ha : X a) : Fits h X h' X := fun b o e n => ⟨hs b o (by rintro rfl; exact n ha) e, n⟩
theorem Fits.but {a : Addr} (hs : Heap.SameBut a h h') (ha : X a) : Fits h X h' X := .butE hs.extBut ha
theorem Fits.fresh {a : Addr} (k : ∀ a o, h.get? a = some o → h'.get? a = some o) (ha : h.get? a = none) : Fits h X h' (fun b => X b ∨ b = a) :=
  fun b o e n => ⟨k _ _ e, fun q => q.elim n fun r => by subst r; rw [ha] at e; cases e⟩

/-- a local name is stored -/
theorem CfgI.store {x : Str} {v : Value} {lv : LV} (C : CfgI c X m cm d o ((v, lv) :: ts) h) (hx : c.env.kindOf x = some .local)
    (hn : h'.Ns c.env.locals (fun y => if y = x then some v else m y)) (hs : Heap.SameBut c.env.locals h h') :
    CfgI c X (fun y => if y = x then some v else m y) cm ((x, lv) :: d) o ts h' where
  ns := hn
  cell := fun n a e => (C.cell n a e).sameBut hs (C.XC n a e).2
  stays := fun a ob e => (hs.2 a (by rintro rfl; rw [C.gL] at e; cases e)).trans (C.stays a ob e)
  dom := fun a e => by
    obtain ⟨ob, q⟩ := C.dom a e
    by_cases ha : a = c.env.locals
    · subst ha; obtain ⟨ob, _, _, q, _⟩ := hn; exact ⟨ob, q⟩
    · exact ⟨ob, (hs.2 a ha).trans q⟩
  sub := C.sub
  gL := C.gL
  XL := C.XL
  XC := C.XC
  gC := C.gC
  CC := C.CC
  vars := fun n lv' e => by
    rw [List.lookup_cons] at e
    cases hb : n == x with
    | true =>
      rw [hb] at e; cases e
      have := beq_iff_eq.mp hb; subst this
      exact ⟨v, by simp [slotV, hx], (C.tmps _ List.mem_cons_self).mono (.but hs C.XL)⟩
    | false =>
      rw [hb] at e
      obtain ⟨u, h1, h2⟩ := C.vars n lv' e
      refine ⟨u, ?_, h2.mono (.but hs C.XL)⟩
      have hne : n ≠ x := by rintro rfl; simp at hb
      simpa [slotV, hne] using h1
  tmps := fun q e => (C.tmps q (List.mem_cons_of_mem _ e)).mono (.but hs C.XL)
  owns := fun q e => ⟨(C.owns q e).1.mono (.but hs C.XL) fun o => fun e' => (hs.2 _ (C.owns q e).2.2.2.2.1).trans e', (C.owns q e).2⟩
  nodup := C.nodup

/-- a name in a cell of the frame's own is stored -/
theorem CfgI.storeC {x : Str} {v : Value} {lv : LV} {a : Addr} (C : CfgI c X m cm d o ((v, lv) :: ts) h) (hx : c.env.kindOf x ≠ some .local) (hc : c.env.cells.lookup x = some a) (ho : c.own x = true)
    (hn : h'.IsCell a (some v)) (hs : Heap.SameBut a h h') :
    CfgI c X m (fun y => if y = x then some v else cm y) ((x, lv) :: d) o ts h' where
  ns := C.ns.sameBut hs (C.XC x a hc).2.symm
  cell := fun n b e => by
    by_cases hn' : n = x
    · subst hn'; rw [hc] at e; cases e; simpa using hn
    · simp only [hn', if_false]
      exact (C.cell n b e).sameBut hs fun q => hn' (name_of_addr C.CC (mem_of_lookup e) (q ▸ mem_of_lookup hc))
  stays := fun b ob e => (hs.2 b (by rintro rfl; rw [C.gC x _ hc ho] at e; cases e)).trans (C.stays b ob e)
  dom := fun b e => by
    obtain ⟨ob, q⟩ := C.dom b e
    by_cases hb : b = a
    · subst hb; obtain ⟨ob, q, _⟩ := hn; exact ⟨ob, q⟩
    · exact ⟨ob, (hs.2 b hb).trans q⟩
  sub := C.sub
  gL := C.gL
  XL := C.XL
  XC := C.XC
  gC := C.gC
  CC := C.CC
  vars := fun n lv' e => by
    rw [List.lookup_cons] at e
    cases hb : n == x with
    | true =>
      rw [hb] at e; cases e
      have := beq_iff_eq.mp hb; subst this
      exact ⟨v, by simp [slotV, hx, hc], (C.tmps _ List.mem_cons_self).mono (.but hs (C.XC n a hc).1)⟩
    | false =>
      rw [hb] at e
      obtain ⟨u, h1, h2⟩ := C.vars n lv' e
      refine ⟨u, ?_, h2.mono (.but hs (C.XC x a hc).1)⟩
      have hne : n ≠ x := by rintro rfl; simp at hb
      simpa [slotV, hne] using h1
  tmps := fun q e => (C.tmps q (List.mem_cons_of_mem _ e)).mono (.but hs (C.XC x a hc).1)
  owns := fun q e => ⟨(C.owns q e).1.mono (.but hs (C.XC x a hc).1) fun o => fun e' => (hs.2 _ (fun q' => (C.owns q e).2.2.2.2.2 x a hc q'.symm)).trans e', (C.owns q e).2⟩
  nodup := C.nodup

inductive OUp (a : Addr) (ov ov' : OV) : List (Addr × OV) → List (Addr × OV) → Prop
  | head {r} : OUp a ov ov' ((a, ov) :: r) ((a, ov') :: r)
  | tail {p r r'} : OUp a ov ov' r r' → OUp a ov ov' (p :: r) (p :: r')
theorem OUp.mem {a : Addr} {ov ov' : OV} {l l' : List (Addr × OV)} (u : OUp a ov ov' l l') : (a, ov) ∈ l := by
  induction u with
  | head => exact List.mem_cons_self
  | tail _ ih => exact List.mem_cons_of_mem _ ih
theorem OUp.map {a : Addr} {ov ov' : OV} {l l' : List (Addr × OV)} (u : OUp a ov ov' l l') : l'.map (·.1) = l.map (·.1) := by
  induction u with
  | head => rfl
  | tail _ ih => rw [List.map_cons, ih]; rfl
theorem OUp.mem' {a : Addr} {ov ov' : OV} {l l' : List (Addr × OV)} (u : OUp a ov ov' l l') : (l.map (·.1)).Nodup → ∀ q ∈ l', q = (a, ov') ∨ (q ∈ l ∧ q.1 ≠ a) := by
  induction u with
  | head =>
    intro nd q hq
    rcases List.mem_cons.mp hq with e | hq
    · exact .inl e
    · exact .inr ⟨List.mem_cons_of_mem _ hq, fun e => (List.nodup_cons.mp nd).1 (List.mem_map.mpr ⟨q, hq, e⟩)⟩
  | tail r ih =>
    intro nd q hq
    have nd := List.nodup_cons.mp nd
    rcases List.mem_cons.mp hq with e | hq
    · exact .inr ⟨e ▸ List.mem_cons_self, fun e' => nd.1 (List.mem_map.mpr ⟨_, r.mem, (e'.symm.trans (congrArg Prod.fst e))⟩)⟩
    · exact (ih nd.2 q hq).imp id fun h => ⟨List.mem_cons_of_mem _ h.1, h.2⟩

theorem Heap.IsCell.extBut' {a n : Addr} {v : Option Value} (x : h.IsCell n v) (hs : Heap.ExtBut a h h') (hca : n ≠ a) : h'.IsCell n v :=
  let ⟨o, ho, hd⟩ := x; ⟨o, hs _ _ hca ho, hd⟩
/-- an object of the frame's own changes -/
theorem CfgI.upE {a : Addr} {ov ov' : OV} {o' : List (Addr × OV)} (C : CfgI c X m cm d o ts h) (u : OUp a ov ov' o o') (hs : Heap.ExtBut a h h') (hn : OVden h' X a ov') : CfgI c X m cm d o' ts h' where
  ns := C.ns.extBut hs (C.owns _ u.mem).2.2.2.2.1.symm
  cell := fun n b e => Heap.IsCell.extBut' (C.cell n b e) hs ((C.owns _ u.mem).2.2.2.2.2 n b e)
  stays := fun b ob e => hs b _ (by rintro rfl; rw [(C.owns _ u.mem).2.2.2.1] at e; cases e) (C.stays b ob e)
  dom := fun b e => by
    obtain ⟨ob, q⟩ := C.dom b e
    by_cases hb : b = a
    · subst hb; exact hn.there
    · exact ⟨ob, hs b _ hb q⟩
  sub := C.sub
  gL := C.gL
  XL := C.XL
  XC := C.XC
  gC := C.gC
  CC := C.CC
  vars := fun n lv e => let ⟨v, p, q⟩ := C.vars n lv e; ⟨v, p, q.mono (.butE hs (C.owns _ u.mem).2.1)⟩
  tmps := fun q e => (C.tmps q e).mono (.butE hs (C.owns _ u.mem).2.1)
  owns := fun q e => by
    rcases u.mem' C.nodup q e with rfl | ⟨h1, h2⟩
    · exact ⟨hn, (C.owns _ u.mem).2⟩
    · exact ⟨(C.owns q h1).1.mono (.butE hs (C.owns _ u.mem).2.1) fun o e' => hs _ _ h2 e', (C.owns q h1).2⟩
  nodup := by rw [u.map]; exact C.nodup
theorem CfgI.up {a : Addr} {ov ov' : OV} {o' : List (Addr × OV)} (C : CfgI c X m cm d o ts h) (u : OUp a ov ov' o o') (hs : Heap.SameBut a h h') (hn : OVden h' X a ov') : CfgI c X m cm d o' ts h' := C.upE u hs.extBut hn
/-- an object of the frame's own is given up -/
theorem CfgI.dropE {a : Addr} {ov : OV} (C : CfgI c X m cm d ((a, ov) :: o) ts h) (hs : Heap.ExtBut a h h') : CfgI c (fun b => X b ∧ b ≠ a) m cm d o ts h' where
  ns := C.ns.extBut hs (C.owns _ List.mem_cons_self).2.2.2.2.1.symm
  cell := fun n b e => Heap.IsCell.extBut' (C.cell n b e) hs ((C.owns _ List.mem_cons_self).2.2.2.2.2 n b e)
  stays := fun b ob e => hs b _ (by rintro rfl; rw [(C.owns _ List.mem_cons_self).2.2.2.1] at e; cases e) (C.stays b ob e)
  dom := fun b e => by
    obtain ⟨ob, q⟩ := C.dom b e.1
    exact ⟨ob, hs b _ e.2 q⟩
  sub := fun b e => ⟨C.sub b e, by rintro rfl; exact (C.owns _ List.mem_cons_self).2.2.1 e⟩
  gL := C.gL
  XL := ⟨C.XL, (C.owns _ List.mem_cons_self).2.2.2.2.1.symm⟩
  XC := fun n b e => ⟨⟨(C.XC n b e).1, (C.owns _ List.mem_cons_self).2.2.2.2.2 n b e⟩, (C.XC n b e).2⟩
  gC := C.gC
  CC := C.CC
  vars := fun n lv e => let ⟨v, p, q⟩ := C.vars n lv e; ⟨v, p, q.mono fun b ob e' n' => ⟨hs b ob (by rintro rfl; exact n' (C.owns _ List.mem_cons_self).2.1) e', fun q' => n' q'.1⟩⟩
  tmps := fun q e => (C.tmps q e).mono fun b ob e' n' => ⟨hs b ob (by rintro rfl; exact n' (C.owns _ List.mem_cons_self).2.1) e', fun q' => n' q'.1⟩
  owns := fun q e => by
    have nd := C.nodup
    simp only [List.map_cons, List.nodup_cons] at nd
    have hne : q.1 ≠ a := fun e' => nd.1 (List.mem_map.mpr ⟨q, e, e'⟩)
    have O := C.owns q (List.mem_cons_of_mem _ e)
    exact ⟨O.1.mono (fun b ob e' n' => ⟨hs b ob (by rintro rfl; exact n' (C.owns _ List.mem_cons_self).2.1) e', fun q' => n' q'.1⟩) fun ob e' => hs _ _ hne e', ⟨O.2.1, hne⟩, O.2.2⟩
  nodup := by have nd := C.nodup; simp only [List.map_cons, List.nodup_cons] at nd; exact nd.2
/-- a list of the frame's own is handed on as it stands -/
theorem CfgI.freeze {a : Addr} {xs : List PyData} (C : CfgI c X m cm d ((a, .lst xs) :: o) ts h) : CfgI c (fun b => X b ∧ b ≠ a) m cm d o ((.ref a, .p (.list xs)) :: ts) h := by
  refine (C.dropE (h' := h) fun b ob _ e => e).push ?_
  obtain ⟨vs, n, h1, h2⟩ := (C.owns _ List.mem_cons_self).1
  show Den _ _ _ _
  unfold Den
  exact ⟨a, vs, n, rfl, fun q => q.2 rfl, h1, h2.mono fun b ob e n' => ⟨e, fun q => n' q.1⟩⟩

/-- a fresh object becomes the frame's own -/
theorem CfgI.new {a : Addr} {ov : OV} (C : CfgI c X m cm d o ts h) (k : ∀ a o, h.get? a = some o → h'.get? a = some o) (ha : h.get? a = none) (hn : OVden h' (fun b => X b ∨ b = a) a ov) :
    CfgI c (fun b => X b ∨ b = a) m cm d ((a, ov) :: o) ((.ref a, .at a) :: ts) h' where
  ns := C.ns.keeps k
  cell := fun n a e => (C.cell n a e).keeps k
  stays := fun a ob e => k a ob (C.stays a ob e)
  dom := fun b e => by
    rcases e with e | rfl
    · obtain ⟨ob, q⟩ := C.dom b e; exact ⟨ob, k _ _ q⟩
    · exact hn.there
  sub := fun b e => .inl (C.sub b e)
  gL := C.gL
  XL := .inl C.XL
  XC := fun n b e => ⟨.inl (C.XC n b e).1, (C.XC n b e).2⟩
  gC := C.gC
  CC := C.CC
  vars := fun n lv e => let ⟨v, p, q⟩ := C.vars n lv e; ⟨v, p, q.mono (.fresh k ha)⟩
  tmps := fun q e => by
    rcases List.mem_cons.mp e with rfl | e
    · exact rfl
    · exact (C.tmps q e).mono (.fresh k ha)
  owns := fun q e => by
    rcases List.mem_cons.mp e with rfl | e
    · refine ⟨?_, .inr rfl, fun q => ?_, ?_, fun q => ?_, fun n b e q => ?_⟩
      · exact hn
      · obtain ⟨ob, q⟩ := C.dom _ (C.sub _ q); rw [ha] at q; cases q
      · cases q : c.g.get? a with
        | none => rfl
        | some ob => have := C.stays _ _ q; rw [ha] at this; cases this
      · obtain ⟨ob, q⟩ := C.dom _ (q ▸ C.XL); rw [ha] at q; cases q
      · obtain ⟨ob, q⟩ := C.dom _ (q ▸ (C.XC n b e).1); rw [ha] at q; cases q
    · exact ⟨(C.owns q e).1.mono (.fresh k ha) fun o => k _ o, .inl (C.owns q e).2.1, (C.owns q e).2.2⟩
  nodup := by
    rw [List.map_cons, List.nodup_cons]
    refine ⟨fun e => ?_, C.nodup⟩
    obtain ⟨q, hq, rfl⟩ := List.mem_map.mp e
    obtain ⟨ob, q⟩ := C.dom _ (C.owns q hq).2.1; rw [ha] at q; cases q
end
end Mine
end

section
open PySem PySem.W PyProof.Rows PySem.Calls
set_option linter.unusedVariables false
namespace Mine

structure Room (k : Nat) (A : Around) : Prop where
  dp : A.depth + k < recursionLimit
  un : A.units + 20 * k + 200 < cLine

noncomputable abbrev XD (X : AP) (h : Heap) : Prop := ∀ a, X a → ∃ ob, h.get? a = some ob
noncomputable abbrev Gr (h h' : Heap) : Prop := ∀ a o, h.get? a = some o → h'.get? a = some o

/-- read only: the outermost list may be one that the frame still changes -/
noncomputable def DenT (h : Heap) (X : AP) : PyData → Value → Prop
  | .list xs, v => ∃ a vs n, v = .ref a ∧ h.get? a = some (listO vs n) ∧ DenAll h X xs vs
  | p, v => Den h X p v
theorem Den.toT {h : Heap} {X : AP} {p : PyData} {v : Value} (e : Den h X p v) : DenT h X p v := by
  cases p with
  | list xs => unfold Den at e; obtain ⟨a, vs, n, h1, _, h3, h4⟩ := e; exact ⟨a, vs, n, h1, h3, h4⟩
  | _ => exact e
/-- what a local holds, read as data -/
noncomputable def Rd (o : List (Addr × OV)) (lv : LV) (p : PyData) : Prop := lv = .p p ∨ ∃ a xs, lv = .at a ∧ (a, OV.lst xs) ∈ o ∧ p = .list xs
theorem Rd.pd {o : List (Addr × OV)} {p : PyData} : Rd o (.p p) p := .inl rfl
theorem Rd.own {o : List (Addr × OV)} {a : Addr} {xs : List PyData} (h : (a, OV.lst xs) ∈ o) : Rd o (.at a) (.list xs) := .inr ⟨a, xs, rfl, h, rfl⟩

section
variable {c : Cx} {X : AP} {m cm : Str → Option Value} {d : List (Str × LV)} {o : List (Addr × OV)} {ts : List (Value × LV)} {h h' : Heap}
theorem CfgI.rd (C : CfgI c X m cm d o ts h) {lv : LV} {p : PyData} {v : Value} (r : Rd o lv p) (hm : (v, lv) ∈ ts) : DenT h X p v := by
  rcases r with rfl | ⟨a, xs, rfl, ha, rfl⟩
  · exact Den.toT (C.tmps _ hm)
  · have e : v = .ref a := C.tmps _ hm
    subst e
    obtain ⟨vs, n, h1, h2⟩ := (C.owns _ ha).1
    exact ⟨a, vs, n, rfl, h1, h2⟩
end

/-- an operation on data: it makes what it makes, and changes nothing -/
noncomputable def Op1 (A : Around) (t : Value → Sem Value) (p r : PyData) : Prop := ∀ (prog : Program) (w : World) (s : Shared) (h : Heap) (tk : Nat) (X : AP) (u : Value) (Q : Value → Shared → Prop) (E : Value → Shared → Prop),
  Room 1 A → XD X h → DenT h X p u → (∀ v h' tk', Gr h h' → Den h' X r v → Q v (St s h' tk')) → wpAny (model prog w) A (t u) Q E (St s h tk)
noncomputable def Op2 (A : Around) (t : Value → Value → Sem Value) (p q r : PyData) : Prop := ∀ (prog : Program) (w : World) (s : Shared) (h : Heap) (tk : Nat) (X : AP) (u v : Value) (Q : Value → Shared → Prop) (E : Value → Shared → Prop),
  Room 1 A → XD X h → DenT h X p u → DenT h X q v → (∀ x h' tk', Gr h h' → Den h' X r x → Q x (St s h' tk')) → wpAny (model prog w) A (t u v) Q E (St s h tk)
noncomputable def Tr (A : Around) (p : PyData) (b : Bool) : Prop := ∀ (prog : Program) (w : World) (s : Shared) (h : Heap) (tk : Nat) (X : AP) (u : Value) (Q : Bool → Shared → Prop) (E : Value → Shared → Prop),
  Room 1 A → DenT h X p u → (∀ tk', Q b (St s h tk')) → wpAny (model prog w) A (truthy u) Q E (St s h tk)

/-- an expression's value, where it changes nothing -/
noncomputable def EvP (c : Cx) (A : Around) (s : Shared) (d : List (Str × LV)) (o : List (Addr × OV)) (e : Expr) (lv : LV) : Prop :=
  ∀ (ts : List (Value × LV)) (h : Heap) (tk : Nat) (Q : Value → Shared → Prop) (E : Value → Shared → Prop), Cfg c d o ts h →
    (∀ v h' tk', Cfg c d o ((v, lv) :: ts) h' → Q v (St s h' tk')) → wpAny (model c.prog c.w) A (eval e c.env) Q E (St s h tk)
/-- the same, where it hands on lists of its own, or one of several values -/
noncomputable def Ev (c : Cx) (A : Around) (s : Shared) (d : List (Str × LV)) (o : List (Addr × OV)) (e : Expr) (R : LV → List (Addr × OV) → Prop) : Prop :=
  ∀ (ts : List (Value × LV)) (h : Heap) (tk : Nat) (Q : Value → Shared → Prop) (E : Value → Shared → Prop), Cfg c d o ts h →
    (∀ v h' tk' lv o', R lv o' → Cfg c d o' ((v, lv) :: ts) h' → Q v (St s h' tk')) → wpAny (model c.prog c.w) A (eval e c.env) Q E (St s h tk)
noncomputable def TsP (c : Cx) (A : Around) (s : Shared) (d : List (Str × LV)) (o : List (Addr × OV)) (e : Expr) (b : Bool) : Prop :=
  ∀ (ts : List (Value × LV)) (h : Heap) (tk : Nat) (Q : Bool → Shared → Prop) (E : Value → Shared → Prop), Cfg c d o ts h →
    (∀ h' tk', Cfg c d o ts h' → Q b (St s h' tk')) → wpAny (model c.prog c.w) A (isTrue e c.env (eval e c.env)) Q E (St s h tk)
/-- the places of a call, one after the other -/
noncomputable def EvAll (c : Cx) (A : Around) (s : Shared) (d : List (Str × LV)) (o : List (Addr × OV)) (es : List Expr) (lvs : List LV) : Prop :=
  ∀ (pos : Pos) (ts : List (Value × LV)) (h : Heap) (tk : Nat) (Q : List Value → Shared → Prop) (E : Value → Shared → Prop), Cfg c d o ts h →
    (∀ vs h' tk', vs.length = lvs.length → Cfg c d o (vs.zip lvs ++ ts) h' → Q vs (St s h' tk')) → wpAny (model c.prog c.w) A (spliced (backTo pos (starEach es c.env))) Q E (St s h tk)

section
variable {c : Cx} {A : Around} {s : Shared} {d : List (Str × LV)} {o : List (Addr × OV)}

theorem EvP.toEv {e : Expr} {lv : LV} (H : EvP c A s d o e lv) : Ev c A s d o e (fun l o' => l = lv ∧ o' = o) :=
  fun ts h tk Q E C k => H ts h tk Q E C fun v h' tk' C' => k v h' tk' lv o ⟨rfl, rfl⟩ C'

theorem EvP.cstr {x : Str} {k : Nat} {pos : Pos} : EvP c A s d o (.Constant (.str x) k pos) (.p (.str x)) :=
  fun ts h tk Q E ⟨X, m, cm, C⟩ k => wpAny_Constant_str (k _ h (tk + 1) ⟨X, m, cm, C.push (by show Den _ _ _ _; unfold Den; exact ⟨_, rfl⟩)⟩)
theorem EvP.cint {x : Int} {k : Nat} {pos : Pos} : EvP c A s d o (.Constant (.int x) k pos) (.p (.int x)) :=
  fun ts h tk Q E ⟨X, m, cm, C⟩ k => wpAny_Constant_int (k _ h (tk + 1) ⟨X, m, cm, C.push (by show Den _ _ _ _; unfold Den; exact ⟨_, rfl⟩)⟩)
theorem EvP.cbool {x : Bool} {k : Nat} {pos : Pos} : EvP c A s d o (.Constant (.bool x) k pos) (.p (.bool x)) :=
  fun ts h tk Q E ⟨X, m, cm, C⟩ k => wpAny_Constant_bool (k _ h tk ⟨X, m, cm, C.push (by show Den _ _ _ _; unfold Den; rfl)⟩)
theorem EvP.cnone {k : Nat} {pos : Pos} : EvP c A s d o (.Constant .none k pos) (.p .none) :=
  fun ts h tk Q E ⟨X, m, cm, C⟩ k => wpAny_Constant_none (k _ h tk ⟨X, m, cm, C.push (by show Den _ _ _ _; unfold Den; rfl)⟩)

/-- a name of the frame's -/
theorem EvP.name {x : Str} {pos : Pos} {lv : LV} (hd : d.lookup x = some lv) (hk : c.env.scope.kind = .function)
    (hx : c.env.kindOf x = some .local ∨ ((c.env.kindOf x = some .cell ∨ c.env.kindOf x = some .free) ∧ (c.env.cells.lookup x).isSome = true)) (hn : (x == ("__debug__" : Str)) = false)
    (hn2 : (x == ("__classdict__" : Str)) = false) : EvP c A s d o (.Name x pos) lv := by
  rintro ts h tk Q E ⟨X, m, cm, C⟩ k
  obtain ⟨v, h1, h2⟩ := C.vars x lv hd
  refine wpAny_Name ?_ hn
  rcases hx with hx | ⟨hx, hc⟩
  · simp only [slotV, hx, if_true] at h1
    exact wpAny_loadName_local hk hx C.ns h1 (k v h tk ⟨X, m, cm, C.push h2⟩)
  · obtain ⟨a, ha⟩ := Option.isSome_iff_exists.mp hc
    have hnl : ¬ c.env.kindOf x = some .local := by rcases hx with hx | hx <;> rw [hx] <;> decide
    simp only [slotV, hnl, if_false, hc, if_true] at h1
    have hcell := C.cell x a ha
    rw [h1] at hcell
    rcases hx with hx | hx
    · exact wpAny_loadName_cell hk hx ha hcell (k v h tk ⟨X, m, cm, C.push h2⟩)
    · exact wpAny_loadName_free hk hx ha hcell (k v h tk ⟨X, m, cm, C.push h2⟩) hn2
theorem EvP.loc {x : Str} {pos : Pos} {lv : LV} (hd : d.lookup x = some lv := by rfl) (hk : c.env.scope.kind = .function := by rfl) (hx : c.env.kindOf x = some .local := by rfl)
    (hn : (x == ("__debug__" : Str)) = false := by decide) (hn2 : (x == ("__classdict__" : Str)) = false := by decide) : EvP c A s d o (.Name x pos) lv := EvP.name hd hk (.inl hx) hn hn2
theorem EvP.cel {x : Str} {pos : Pos} {lv : LV} (hd : d.lookup x = some lv := by rfl) (hk : c.env.scope.kind = .function := by rfl) (hx : c.env.kindOf x = some .cell := by rfl)
    (hc : (c.env.cells.lookup x).isSome = true := by rfl) (hn : (x == ("__debug__" : Str)) = false := by decide) (hn2 : (x == ("__classdict__" : Str)) = false := by decide) :
    EvP c A s d o (.Name x pos) lv := EvP.name hd hk (.inr ⟨.inl hx, hc⟩) hn hn2
theorem CfgI.done2 {X : AP} {m cm : Str → Option Value} {ts : List (Value × LV)} {h h' : Heap} {u v x : Value} {l1 l2 : LV} {r : PyData} (C : CfgI c X m cm d o ((u, l1) :: (v, l2) :: ts) h) (g : Gr h h') (e : Den h' X r x) :
    Cfg c d o ((x, .p r) :: ts) h' := ⟨X, m, cm, ((C.sub_ts fun q hq => List.mem_cons_of_mem _ (List.mem_cons_of_mem _ hq)).ext g).push e⟩
theorem CfgI.done1 {X : AP} {m cm : Str → Option Value} {ts : List (Value × LV)} {h h' : Heap} {u x : Value} {l1 : LV} {r : PyData} (C : CfgI c X m cm d o ((u, l1) :: ts) h) (g : Gr h h') (e : Den h' X r x) :
    Cfg c d o ((x, .p r) :: ts) h' := ⟨X, m, cm, ((C.sub_ts fun q hq => List.mem_cons_of_mem _ hq).ext g).push e⟩

theorem EvP.bin {l r : Expr} {op : Operator} {pos : Pos} {l1 l2 : LV} {p q x : PyData} (hA : Room 1 A) (H1 : EvP c A s d o l l1) (H2 : EvP c A s d o r l2) (r1 : Rd o l1 p) (r2 : Rd o l2 q) (hop : Op2 A (binaryOp op) p q x) :
    EvP c A s d o (.BinOp l op r pos) (.p x) := by
  intro ts h tk Q E C k
  refine wpAny_BinOp (H1 _ _ _ _ _ C fun u h1 t1 C1 => H2 _ _ _ _ _ C1 fun v h2 t2 C2 => ?_)
  obtain ⟨X, m, cm, C2⟩ := C2
  exact hop _ _ _ _ _ X _ _ _ _ hA C2.dom (C2.rd r1 (by simp)) (C2.rd r2 (by simp)) fun x h3 t3 g e => k _ _ _ (C2.done2 g e)
theorem EvP.cmp {l r : Expr} {op : CmpOp} {pos : Pos} {l1 l2 : LV} {p q x : PyData} (hA : Room 1 A) (H1 : EvP c A s d o l l1) (H2 : EvP c A s d o r l2) (r1 : Rd o l1 p) (r2 : Rd o l2 q) (hop : Op2 A (compareOp op) p q x)
    (hm : behindInMarks op r = false := by with_unfolding_all rfl) : EvP c A s d o (.Compare l [op] [r] pos) (.p x) := by
  intro ts h tk Q E C k
  refine wpAny_Compare1 (H1 _ _ _ _ _ C fun u h1 t1 C1 => H2 _ _ _ _ _ C1 fun v h2 t2 C2 => ?_) hm
  obtain ⟨X, m, cm, C2⟩ := C2
  exact hop _ _ _ _ _ X _ _ _ _ hA C2.dom (C2.rd r1 (by simp)) (C2.rd r2 (by simp)) fun x h3 t3 g e => k _ _ _ (C2.done2 g e)
theorem EvP.un {l : Expr} {op : UnaryOp} {pos : Pos} {l1 : LV} {p x : PyData} (hA : Room 1 A) (H1 : EvP c A s d o l l1) (r1 : Rd o l1 p) (hop : Op1 A (unaryOp op) p x) :
    EvP c A s d o (.UnaryOp op l pos) (.p x) := by
  intro ts h tk Q E C k
  refine UnaryOp_ (H1 _ _ _ _ _ C fun u h1 t1 C1 => ?_)
  obtain ⟨X, m, cm, C1⟩ := C1
  exact hop _ _ _ _ _ X _ _ _ hA C1.dom (C1.rd r1 (by simp)) fun x h3 t3 g e => k _ _ _ (C1.done1 g e)
theorem EvP.ifx {t a b : Expr} {pos : Pos} {k : Bool} {lv : LV} (H : TsP c A s d o t k) (H1 : k = true → EvP c A s d o a lv) (H2 : k = false → EvP c A s d o b lv) : EvP c A s d o (.IfExp t a b pos) lv := by
  intro ts h tk Q E C kk
  refine IfExp_ (H _ _ _ _ _ C fun h1 t1 C1 => ?_)
  cases k with
  | true => exact H1 rfl _ _ _ _ _ C1 kk
  | false => exact H2 rfl _ _ _ _ _ C1 kk
theorem EvP.and2 {a b : Expr} {pos : Pos} {x : Bool} {y : PyData} (hA : Room 1 A) (H1 : EvP c A s d o a (.p (.bool x))) (H2 : x = true → EvP c A s d o b (.p y)) : EvP c A s d o (.BoolOp .And [a, b] pos) (.p (if x then y else .bool x)) := by
  intro ts h tk Q E C k
  refine BoolOp_and (H1 _ _ _ _ _ C fun u h1 t1 C1 => ?_)
  have hu : u = .bool x := by obtain ⟨X, m, cm, C1⟩ := C1; have := C1.tmps (u, .p (.bool x)) (by simp); exact this
  subst hu
  refine wpAny_truthy_bool ?_
  cases x with
  | true => exact BoolOp_one (H2 rfl _ _ _ _ _ (C1.sub_ts (by intro q hq; exact List.mem_cons_of_mem _ hq)) k)
  | false => exact k _ _ _ C1

theorem TsP.cmp {l r : Expr} {op : CmpOp} {pos : Pos} {l1 l2 : LV} {p q : PyData} {x : Bool} (hA : Room 1 A) (H1 : EvP c A s d o l l1) (H2 : EvP c A s d o r l2) (r1 : Rd o l1 p) (r2 : Rd o l2 q) (hop : Op2 A (compareOp op) p q (.bool x))
    (hm : behindInMarks op r = false := by with_unfolding_all rfl) : TsP c A s d o (.Compare l [op] [r] pos) x := by
  intro ts h tk Q E C k
  refine wpAny_isTrue_Compare1 (H1 _ _ _ _ _ C fun u h1 t1 C1 => H2 _ _ _ _ _ C1 fun v h2 t2 C2 => ?_) hm
  obtain ⟨X, m, cm, C2⟩ := C2
  refine hop _ _ _ _ _ X _ _ _ _ hA C2.dom (C2.rd r1 (by simp)) (C2.rd r2 (by simp)) fun y h3 t3 g e => ?_
  have hy : y = .bool x := e
  subst hy
  exact wpAny_truthy_bool (k _ _ ⟨X, m, cm, (C2.sub_ts fun q hq => List.mem_cons_of_mem _ (List.mem_cons_of_mem _ hq)).ext g⟩)
theorem TsP.val {e : Expr} {lv : LV} {p : PyData} {b : Bool} (hA : Room 1 A) (H : EvP c A s d o e lv) (r : Rd o lv p) (t : Tr A p b)
    (he : ∀ whole, isTrue e c.env whole = (do let v ← whole; standAt e.pos; holding [v] (truthy v)) := by intro _; rfl) : TsP c A s d o e b := by
  intro ts h tk Q E C k
  refine isTrue_plain (H _ _ _ _ _ C fun u h1 t1 C1 => ?_) (he _)
  obtain ⟨X, m, cm, C1⟩ := C1
  exact t _ _ _ _ _ X _ _ _ hA (C1.rd r (by simp)) fun t2 => k _ _ ⟨X, m, cm, C1.sub_ts fun q hq => List.mem_cons_of_mem _ hq⟩
theorem TsP.not {e : Expr} {pos : Pos} {b : Bool} (H : TsP c A s d o e b) : TsP c A s d o (.UnaryOp .Not e pos) (!b) := fun ts h tk Q E C k => isTrue_not (H _ _ _ _ _ C k)
theorem TsP.and0 {pos : Pos} : TsP c A s d o (.BoolOp .And [] pos) true := fun ts h tk Q E C k => isTrue_and_nil (k _ _ C)
theorem TsP.or0 {pos : Pos} : TsP c A s d o (.BoolOp .Or [] pos) false := fun ts h tk Q E C k => isTrue_or_nil (k _ _ C)
theorem TsP.and {x : Expr} {rest : List Expr} {pos : Pos} {a b : Bool} (H1 : TsP c A s d o x a) (H2 : a = true → TsP c A s d o (.BoolOp .And rest pos) b) : TsP c A s d o (.BoolOp .And (x :: rest) pos) (a && b) := by
  intro ts h tk Q E C k
  refine isTrue_and (H1 _ _ _ _ _ C fun h1 t1 C1 => ?_)
  cases a with
  | true => exact H2 rfl _ _ _ _ _ C1 (by simpa using k)
  | false => simpa using k _ _ C1
theorem TsP.or {x : Expr} {rest : List Expr} {pos : Pos} {a b : Bool} (H1 : TsP c A s d o x a) (H2 : a = false → TsP c A s d o (.BoolOp .Or rest pos) b) : TsP c A s d o (.BoolOp .Or (x :: rest) pos) (a || b) := by
  intro ts h tk Q E C k
  refine isTrue_or (H1 _ _ _ _ _ C fun h1 t1 C1 => ?_)
  cases a with
  | false => exact H2 rfl _ _ _ _ _ C1 (by simpa using k)
  | true => simpa using k _ _ C1

theorem EvAll.nil : EvAll c A s d o [] [] := fun pos ts h tk Q E C k => args_nil (k [] _ _ rfl (by simpa using C))
theorem EvAll.cons {e : Expr} {es : List Expr} {lv : LV} {lvs : List LV} (H1 : EvP c A s d o e lv) (H2 : EvAll c A s d o es lvs)
    (he : starEach (e :: es) c.env = (false, eval e c.env) :: starEach es c.env := by rfl) : EvAll c A s d o (e :: es) (lv :: lvs) := by
  intro pos ts h tk Q E C k
  refine args_cons (H1 _ _ _ _ _ C fun v h1 t1 C1 => H2 _ _ _ _ _ _ C1 fun vs h2 t2 hl C2 => k _ _ _ (by simp [hl]) (C2.sub_ts ?_)) he
  intro q hq
  simp only [List.zip_cons_cons, List.cons_append, List.mem_cons, List.mem_append] at hq ⊢
  rcases hq with hq | hq | hq
  · exact .inr (.inl hq)
  · exact .inl hq
  · exact .inr (.inr hq)
end
end Mine
end

section
open PySem PySem.W PyProof.Rows PySem.Calls
set_option linter.unusedVariables false
namespace Mine

noncomputable def HasGet (p : PyData) : Prop := ∃ T id, typeLookup (.type T) (Str.ofString "__getitem__") = pure (some (.builtin id)) ∧ ∀ (h : Heap) (X : AP) (v : Value) (s : Shared) (tk : Nat), DenT h X p v → (St s h tk).TypeIs v T
theorem HasGet.list {xs : List PyData} : HasGet (.list xs) := ⟨"list", _, slot_list_getitem.lookup, fun h X v s tk e => by
  obtain ⟨a, vs, n, rfl, h3, h4⟩ := e
  exact ⟨_, h3, rfl⟩⟩
theorem HasGet.tuple {xs : List PyData} : HasGet (.tuple xs) := ⟨"tuple", _, slot_tuple_getitem.lookup, fun h X v s tk e => by
  have e : Den h X (.tuple xs) v := e
  unfold Den at e
  obtain ⟨a, vs, n, rfl, _, h3, h4⟩ := e
  exact ⟨_, h3, rfl⟩⟩
theorem HasGet.str {x : Str} : HasGet (.str x) := ⟨"str", _, F.slot_str_getitem.lookup, fun h X v s tk e => by
  have e : Den h X (.str x) v := e
  unfold Den at e
  obtain ⟨t, rfl⟩ := e
  exact typeIs_str _ _ _⟩

noncomputable def partD : Option Int → PyData
  | none => .none
  | some i => .int i
theorem partD.is {h : Heap} {X : AP} {lo : Option Int} {v : Value} (e : Den h X (partD lo) v) : IsPart v lo := by
  cases lo with
  | none => unfold partD Den at e; subst e; exact .none
  | some i => unfold partD Den at e; obtain ⟨t, rfl⟩ := e; exact .int i t
noncomputable def SlOp (A : Around) (p : PyData) (lo hi st : Option Int) (r : PyData) : Prop := ∀ (prog : Program) (w : World) (s : Shared) (h : Heap) (tk : Nat) (X : AP) (u : Value) (sl : Addr) (vl vu vs : Value) (Q : Value → Shared → Prop) (E : Value → Shared → Prop),
  Room 1 A → XD X h → DenT h X p u → h.get? sl = some { cls := .type "slice", data := .fields #[vl, vu, vs] } → Den h X (partD lo) vl → Den h X (partD hi) vu → Den h X (partD st) vs →
  (∀ v h' tk', Gr h h' → Den h' X r v → Q v (St s h' tk')) → wpAny (model prog w) A (getItem u (.ref sl)) Q E (St s h tk)

noncomputable def EvPart (c : Cx) (A : Around) (s : Shared) (d : List (Str × LV)) (o : List (Addr × OV)) (e : Option Expr) (lo : Option Int) : Prop :=
  ∀ (ts : List (Value × LV)) (h : Heap) (tk : Nat) (Q : Value → Shared → Prop) (E : Value → Shared → Prop), Cfg c d o ts h →
    (∀ v h' tk', Cfg c d o ((v, .p (partD lo)) :: ts) h' → Q v (St s h' tk')) → wpAny (model c.prog c.w) A (evalPart e c.env) Q E (St s h tk)

section
variable {c : Cx} {A : Around} {s : Shared} {d : List (Str × LV)} {o : List (Addr × OV)}

theorem EvPart.none : EvPart c A s d o none none := fun ts h tk Q E ⟨X, m, cm, C⟩ k => wpAny_pure (k _ _ _ ⟨X, m, cm, C.push (by show Den _ _ _ _; unfold partD Den; rfl)⟩)
theorem EvPart.some {e : Expr} {i : Int} (H : EvP c A s d o e (.p (.int i))) : EvPart c A s d o (some e) (some i) := fun ts h tk Q E C k => H _ _ _ _ _ C k

theorem EvP.sub {l i : Expr} {pos : Pos} {l1 l2 : LV} {p q x : PyData} (hA : Room 1 A) (H1 : EvP c A s d o l l1) (H2 : EvP c A s d o i l2) (r1 : Rd o l1 p) (r2 : Rd o l2 q) (hg : HasGet p) (hop : Op2 A getItem p q x)
    (hs : ∀ a b, subscripted i false a b = operate [a, b] (getItem a b) := by intro _ _; rfl) : EvP c A s d o (.Subscript l i pos) (.p x) := by
  intro ts h tk Q E C k
  refine Subscript_ (H1 _ _ _ _ _ C fun u h1 t1 C1 => H2 _ _ _ _ _ C1 fun v h2 t2 C2 => ?_)
  obtain ⟨X, m, cm, C2⟩ := C2
  obtain ⟨T, id, hl, hT⟩ := hg
  exact tail_any (hT h2 X u s t2 (C2.rd r1 (by simp))) hl (hop _ _ _ _ _ X _ _ _ _ hA C2.dom (C2.rd r1 (by simp)) (C2.rd r2 (by simp)) fun x h3 t3 g e => k _ _ _ (C2.done2 g e)) (hs _ _)

theorem EvP.slice {l : Expr} {lower upper step : Option Expr} {pos pp : Pos} {l1 : LV} {p x : PyData} {lo hi st : Option Int} (hA : Room 1 A) (H1 : EvP c A s d o l l1) (Hl : EvPart c A s d o lower lo) (Hu : EvPart c A s d o upper hi)
    (Hs : EvPart c A s d o step st) (r1 : Rd o l1 p) (hg : HasGet p) (hop : SlOp A p lo hi st x)
    (hs : ∀ a b, ∃ ops, subscripted (.Slice lower upper step pp) false a b = operate ops (getItem a b) := by intro _ _; exact ⟨_, rfl⟩) : EvP c A s d o (.Subscript l (.Slice lower upper step pp) pos) (.p x) := by
  intro ts h tk Q E C k
  refine Subscript_ (H1 _ _ _ _ _ C fun u h1 t1 C1 => wpAny_Slice (Hl _ _ _ _ _ C1 fun v2 h2 t2 C2 => Hu _ _ _ _ _ C2 fun v3 h3 t3 C3 => Hs _ _ _ _ _ C3 fun v4 h4 t4 C4 => ?_))
  obtain ⟨X, m, cm, C4⟩ := C4
  obtain ⟨T, id, hl, hT⟩ := hg
  obtain ⟨ops, ho⟩ := hs u (.ref h4.objs.size)
  have C5 := C4.ext (h' := h4.push { cls := .type "slice", data := .fields #[v2, v3, v4] }) fun a ob e => Heap.get?_push_of_some _ e
  have D1 := C5.tmps (v2, .p (partD lo)) (by simp)
  have D2 := C5.tmps (v3, .p (partD hi)) (by simp)
  have D3 := C5.tmps (v4, .p (partD st)) (by simp)
  refine tail_any (hT _ X u s t4 (C5.rd r1 (by simp))) hl (hop _ _ _ _ _ X _ _ _ _ _ _ _ hA C5.dom (C5.rd r1 (by simp)) (Heap.get?_push_size _ rfl) D1 D2 D3 fun x h5 t5 g e => k _ _ _ ?_) ho
  exact ⟨X, m, cm, ((C5.sub_ts fun q hq => by simp [hq]).ext g).push e⟩

theorem CfgI.alls {X : AP} {m cm : Str → Option Value} {ts : List (Value × LV)} {h : Heap} {vs : List Value} {ps : List PyData} (C : CfgI c X m cm d o (vs.zip (ps.map LV.p) ++ ts) h) (hl : vs.length = (ps.map LV.p).length) : DenAll h X ps vs := by
  have key : ∀ (ps : List PyData) (vs : List Value), vs.length = ps.length → (∀ q ∈ vs.zip (ps.map LV.p), LVden h X q.2 q.1) → DenAll h X ps vs := by
    intro ps
    induction ps with
    | nil => intro vs hl _; cases vs with
      | nil => exact .nil
      | cons v vs => simp at hl
    | cons p ps ih =>
      intro vs hl hq
      cases vs with
      | nil => simp at hl
      | cons v vs =>
        simp only [List.map_cons, List.zip_cons_cons, List.mem_cons, forall_eq_or_imp] at hq
        exact .cons hq.1 (ih vs (by simpa using hl) hq.2)
  exact key ps vs (by simpa using hl) fun q hq => C.tmps q (List.mem_append_left _ hq)

theorem newNone {h : Heap} {a : Addr} (ha : a = h.objs.size) : h.get? a = none := Heap.get?_none_of_le (by subst ha; exact Nat.le_refl _)
theorem freshX {X : AP} {h : Heap} (hX : XD X h) : ¬ X h.objs.size := fun q => by obtain ⟨ob, e⟩ := hX _ q; rw [newNone rfl] at e; cases e

theorem EvP.tup {es : List Expr} {k : Nat} {pos : Pos} {ps : List PyData} (H : EvAll c A s d o es (ps.map .p)) (hz : ps.length ≤ sizeLine) : EvP c A s d o (.Tuple es k pos) (.p (.tuple ps)) := by
  intro ts h tk Q E C kk
  refine wpAny_Tuple (H _ _ _ _ _ _ C fun vs h1 t1 hl C1 => ⟨by simp at hl; lia  , kk _ _ _ ?_⟩)
  obtain ⟨X, m, cm, C1⟩ := C1
  have D := C1.alls hl
  have g : Gr h1 (h1.push { cls := .type "tuple", data := .seq vs.toArray }) := fun a ob e => Heap.get?_push_of_some _ e
  refine ⟨X, m, cm, ((C1.sub_ts fun q hq => List.mem_append_right _ hq).ext g).push ?_⟩
  show Den _ _ _ _
  unfold Den
  exact ⟨_, vs, 0, rfl, freshX C1.dom, Heap.get?_push_size _ rfl, D.mono (.ext g)⟩
theorem EvP.lst {es : List Expr} {pos : Pos} {ps : List PyData} (H : EvAll c A s d o es (ps.map .p)) (hz : ps.length ≤ sizeLine) : EvP c A s d o (.List es pos) (.p (.list ps)) := by
  intro ts h tk Q E C kk
  refine wpAny_List (H _ _ _ _ _ _ C fun vs h1 t1 hl C1 => ⟨by simp at hl; lia  , kk _ _ _ ?_⟩)
  obtain ⟨X, m, cm, C1⟩ := C1
  have D := C1.alls hl
  have g : Gr h1 (h1.push { cls := .type "list", data := .seq vs.toArray }) := fun a ob e => Heap.get?_push_of_some _ e
  refine ⟨X, m, cm, ((C1.sub_ts fun q hq => List.mem_append_right _ hq).ext g).push ?_⟩
  show Den _ _ _ _
  unfold Den
  exact ⟨_, vs, 0, rfl, freshX C1.dom, Heap.get?_push_size _ rfl, D.mono (.ext g)⟩
/-- a list display that the frame keeps for itself -/
theorem Ev.lstN {es : List Expr} {pos : Pos} {ps : List PyData} (H : EvAll c A s d o es (ps.map .p)) (hz : ps.length ≤ sizeLine) : Ev c A s d o (.List es pos) (fun lv o' => ∃ a, lv = .at a ∧ o' = (a, .lst ps) :: o) := by
  intro ts h tk Q E C kk
  refine wpAny_List (H _ _ _ _ _ _ C fun vs h1 t1 hl C1 => ⟨by simp at hl; lia  , kk _ _ _ (.at h1.objs.size) ((h1.objs.size, .lst ps) :: o) ⟨_, rfl, rfl⟩ ?_⟩)
  obtain ⟨X, m, cm, C1⟩ := C1
  have D := C1.alls hl
  have g : Gr h1 (h1.push { cls := .type "list", data := .seq vs.toArray }) := fun a ob e => Heap.get?_push_of_some _ e
  refine ⟨_, m, cm, (C1.sub_ts (ts' := ts) fun q hq => List.mem_append_right _ hq).new g (newNone rfl) ⟨vs, 0, Heap.get?_push_size _ rfl, D.mono (.fresh g (newNone rfl))⟩⟩

/-- a name of the module's or a built-in name -/
theorem wp_glob {x : Str} {pos : Pos} {h : Heap} {tk : Nat} {mg : Str → Option Value} {v : Value} {Q : Value → Shared → Prop} {E : Value → Shared → Prop} (hg : h.Ns c.env.globals mg) (hv : mg x = some v) (k : Q v (St s h tk))
    (hk : c.env.scope.kind = .function := by rfl) (hx : c.env.kindOf x = some .globalImplicit := by rfl) (hn : (x == ("__debug__" : Str)) = false := by decide) :
    wpAny (model c.prog c.w) A (eval (.Name x pos) c.env) Q E (St s h tk) := Name_function_global hk hx (loadGlobal_global hg hv k) hn
theorem wp_blt {x : Str} {pos : Pos} {h : Heap} {tk : Nat} {mg mb : Str → Option Value} {v : Value} {Q : Value → Shared → Prop} {E : Value → Shared → Prop} (hg : h.Ns c.env.globals mg) (hm : mg x = none) (hb : h.Ns c.env.builtins mb) (hv : mb x = some v)
    (k : Q v (St s h tk)) (hk : c.env.scope.kind = .function := by rfl) (hx : c.env.kindOf x = some .globalImplicit := by rfl) (hn : (x == ("__debug__" : Str)) = false := by decide) :
    wpAny (model c.prog c.w) A (eval (.Name x pos) c.env) Q E (St s h tk) := Name_function_global hk hx (loadGlobal_builtin hg hm hb hv k) hn
end
end Mine
end

section
open PySem PySem.W PyProof.Rows PySem.Calls
set_option linter.unusedVariables false
namespace Mine

/-- the def at the i-th place of the program's top -/
noncomputable def stAt (i : Nat) : Option Stmt := PySem.Challenge.pw_ik0174_01.main.body[i]?
noncomputable def dAt (i : Nat) : Arguments × List Stmt × Scope × Pos := match stAt i with
  | some (.FunctionDef _ a body _ _ _ sc _ _ pos) => (a, body, sc, pos)
  | _ => ({ posonlyargs := [], args := [], vararg := none, kwonlyargs := [], kw_defaults := [], kwarg := none, defaults := [] }, [], { kind := .function, names := [], isGenerator := false, isCoroutine := false, more := [] }, ⟨0, 0, 0, 0⟩)
noncomputable def bAt (i : Nat) : List Stmt := (dAt i).2.1
noncomputable def pAt (i : Nat) : Arguments := (dAt i).1
noncomputable def sAt (i : Nat) : Scope := (dAt i).2.2.1
noncomputable def posAt (i : Nat) : Pos := (dAt i).2.2.2

noncomputable abbrev fdOf (n : Str) (i : Nat) (kV doc pm : Value) (an : Option Addr) (cd ct : Value) : FuncData :=
  { name := n, qualname := n, params := pAt i, body := .stmts (bAt i), scope := sAt i, globals := mainGlobals, closure := [], defaults := .none, kwdefaults := kV, doc := doc, pyModule := pm, annotations := an, code := cd, closureTuple := ct, builtins := builtinsNs }

noncomputable def fnTable : List (Str × Nat) := [("_c3_merge", 2), ("_deduplicate", 4), ("_get_sep", 7), ("fspath", 16), ("splitroot", 18), ("dirname", 19), ("normpath", 20), ("_law_texts", 22), ("_law_way", 23), ("_law_row", 24), ("_law_due", 25)]
noncomputable def bltTable : List (Str × Value) := [("len", .builtin "len"), ("abs", .builtin "abs"), ("max", .builtin "max"), ("sorted", .builtin "sorted"), ("isinstance", .builtin "isinstance"), ("issubclass", .builtin "issubclass"),
  ("list", .type "list"), ("type", .type "type"), ("str", .type "str"), ("bytes", .type "bytes"), ("dict", .type "dict"), ("range", .type "range"), ("RuntimeError", .type "RuntimeError"), ("TypeError", .type "TypeError")]

theorem mB {x : Str × Value} (i : Nat) (h : bltTable[i]? = some x) : x ∈ bltTable := List.mem_of_getElem? h
theorem mF {x : Str × Nat} (i : Nat) (h : fnTable[i]? = some x) : x ∈ fnTable := List.mem_of_getElem? h
theorem mBa : (("len" : Str), Value.builtin "len") ∈ bltTable := mB 0 rfl
theorem mBb : (("abs" : Str), Value.builtin "abs") ∈ bltTable := mB 1 rfl
theorem mBc : (("max" : Str), Value.builtin "max") ∈ bltTable := mB 2 rfl
theorem mBd : (("sorted" : Str), Value.builtin "sorted") ∈ bltTable := mB 3 rfl
theorem mBe : (("isinstance" : Str), Value.builtin "isinstance") ∈ bltTable := mB 4 rfl
theorem mBf : (("issubclass" : Str), Value.builtin "issubclass") ∈ bltTable := mB 5 rfl
theorem mBg : (("list" : Str), Value.type "list") ∈ bltTable := mB 6 rfl
theorem mBh : (("type" : Str), Value.type "type") ∈ bltTable := mB 7 rfl
theorem mBi : (("str" : Str), Value.type "str") ∈ bltTable := mB 8 rfl
theorem mBj : (("bytes" : Str), Value.type "bytes") ∈ bltTable := mB 9 rfl
theorem mBk : (("dict" : Str), Value.type "dict") ∈ bltTable := mB 10 rfl
theorem mBl : (("range" : Str), Value.type "range") ∈ bltTable := mB 11 rfl
theorem mBm : (("RuntimeError" : Str), Value.type "RuntimeError") ∈ bltTable := mB 12 rfl
theorem mFx {f : Str} {i : Nat} (h : fnTable.find? (fun q => q.2 == i) = some (f, i)) : (f, i) ∈ fnTable := List.mem_of_find?_eq_some h
theorem mFa : (("_c3_merge" : Str), 2) ∈ fnTable := mF 0 rfl
theorem mFb : (("_deduplicate" : Str), 4) ∈ fnTable := mF 1 rfl
theorem mFc : (("_get_sep" : Str), 7) ∈ fnTable := mF 2 rfl
theorem mFd : (("fspath" : Str), 16) ∈ fnTable := mF 3 rfl
theorem mFe : (("splitroot" : Str), 18) ∈ fnTable := mF 4 rfl
theorem mFf : (("dirname" : Str), 19) ∈ fnTable := mF 5 rfl
theorem mFg : (("normpath" : Str), 20) ∈ fnTable := mF 6 rfl
theorem mFh : (("_law_texts" : Str), 22) ∈ fnTable := mF 7 rfl
theorem mFi : (("_law_way" : Str), 23) ∈ fnTable := mF 8 rfl
theorem mFj : (("_law_row" : Str), 24) ∈ fnTable := mF 9 rfl
theorem mFk : (("_law_due" : Str), 25) ∈ fnTable := mF 10 rfl
/-- the function object of a def of the table -/
inductive FnIs (h : Heap) (a : Addr) (n : Str) (i : Nat) : Prop
  | mk (oc : Value) (od : Option Addr) (osl : Array (Option Value)) (kV doc pm : Value) (an : Option Addr) (cd ct : Value) (ho : h.get? a = some ⟨oc, od, .func (fdOf n i kV doc pm an cd ct), osl⟩) (hc : h.CodeRec cd n)
    (hk : n = ("_deduplicate" : Str) → ∃ ka, kV = .ref ka ∧ h.Ns ka (fun x => if x = ("unhashable_fallback" : Str) then some (.bool false) else none)) : FnIs h a n i
theorem FnIs.gr {h h' : Heap} {a : Addr} {n : Str} {i : Nat} (F : FnIs h a n i) (g : Gr h h') : FnIs h' a n i := by
  obtain ⟨oc, od, osl, kV, doc, pm, an, cd, ct, h1, h2, h3⟩ := F
  refine ⟨oc, od, osl, kV, doc, pm, an, cd, ct, g _ _ h1, h2.keeps g, fun e => ?_⟩
  obtain ⟨ka, e1, e2⟩ := h3 e
  exact ⟨ka, e1, e2.keeps g⟩
/-- what the top has laid and no call of ours changes -/
structure Tp (fa : Str → Addr) (mg mb : Str → Option Value) (h : Heap) : Prop where
  G : h.Ns mainGlobals mg
  B : h.Ns builtinsNs mb
  lim : h.NoLimit
  fn : ∀ q ∈ fnTable, mg q.1 = some (.ref (fa q.1)) ∧ FnIs h (fa q.1) q.1 q.2
  bt : ∀ q ∈ bltTable, mg q.1 = none ∧ mb q.1 = some q.2
theorem Tp.gr {fa : Str → Addr} {mg mb : Str → Option Value} {h h' : Heap} (T : Tp fa mg mb h) (g : Gr h h') : Tp fa mg mb h' where
  G := T.G.keeps g
  B := T.B.keeps g
  lim := T.lim.keeps g
  fn := fun q hq => ⟨(T.fn q hq).1, (T.fn q hq).2.gr g⟩
  bt := T.bt

/-- statements: from a frame that bears d, o, ts -/
noncomputable def Exs (c : Cx) (A : Around) (s : Shared) (d : List (Str × LV)) (o : List (Addr × OV)) (ts : List (Value × LV)) (b : List Stmt) (Q : Flow → Shared → Prop) (E : Value → Shared → Prop) : Prop :=
  ∀ (h : Heap) (tk : Nat), Cfg c d o ts h → wpAny (model c.prog c.w) A (execs b c.env) Q E (St s h tk)
/-- a def's answer -/
inductive RetQ (c : Cx) (s : Shared) (R : LV → Prop) (f : Flow) (s' : Shared) : Prop
  | mk (v : Value) (r : LV) (h' : Heap) (tk' : Nat) (hf : f = .ret v) (hs : s' = St s h' tk') (hr : R r) (hg : Gr c.g h') (hl : LVden h' c.X r v) : RetQ c s R f s'
noncomputable abbrev NoE : Value → Shared → Prop := fun _ _ => False

/-- a def of one place: what it gives back -/
noncomputable def FnC (prog : Program) (w : World) (fa : Str → Addr) (mg mb : Str → Option Value) (k : Nat) (n : Str) (p : LV) (R : LV → Prop) : Prop :=
  ∀ (A : Around) (s : Shared) (h : Heap) (tk : Nat) (X : AP) (u : Value) (Q : Value → Shared → Prop) (E : Value → Shared → Prop), Room k A → A.handled = none → Tp fa mg mb h → XD X h → LVden h X p u →
    (∀ v r h' tk', R r → Gr h h' → LVden h' X r v → Q v (St s h' tk')) → wpAny (model prog w) A (call (.ref (fa n)) [u]) Q E (St s h tk)

noncomputable abbrev cxOf (prog : Program) (w : World) (fd : FuncData) (L a : Addr) (g : Heap) (X : AP) : Cx := ⟨prog, w, callEnvC fd L a, g, X, fun y => ((callEnvC fd L a).cells.lookup y).isSome⟩

theorem Room.deeper {k : Nat} {A : Around} (hA : Room (k + 1) A) (env : Env) : Room k (A.deeper env) where
  dp := by have := hA.dp; show A.depth + 1 + k < _; lia  
  un := by have := hA.un; show A.units + 3 + 20 * k + 200 < _; lia  
theorem Room.le {k j : Nat} {A : Around} (hA : Room k A) (h : j ≤ k) : Room j A where
  dp := by have := hA.dp; lia  
  un := by have := hA.un; lia  

theorem cfg_enter {prog : Program} {w : World} {fd : FuncData} {a : Addr} {g : Heap} {X : AP} {s s₁ : Shared} {m cm : Str → Option Value} {d : List (Str × LV)} (hX : XD X g) (hg : s.heap = g)
    (I : InCallC s (callEnvC fd g.objs.size a).locals m (callEnvC fd g.objs.size a).cells cm s₁)
    (hv : ∀ n lv, d.lookup n = some lv → ∃ v, slotV (callEnvC fd g.objs.size a) m cm n = some v ∧ LVden g X lv v) (hL : (callEnvC fd g.objs.size a).locals = g.objs.size := by rfl) :
    Cfg (cxOf prog w fd g.objs.size a g X) d [] [] s₁.heap := by
  subst hg
  have old : ∀ b o, s.heap.get? b = some o → b < s.heap.objs.size := fun b o e => Heap.lt_size e
  have ge : ∀ n b, (callEnvC fd s.heap.objs.size a).cells.lookup n = some b → s.heap.objs.size < b := fun n b e => by have := I.above n b (mem_of_lookup e); rw [hL] at this; exact this
  refine ⟨fun b => X b ∨ b = s.heap.objs.size ∨ ∃ n, (callEnvC fd s.heap.objs.size a).cells.lookup n = some b, m, cm, ?_⟩
  have fit : Fits s.heap X s₁.heap (fun b => X b ∨ b = s.heap.objs.size ∨ ∃ n, (callEnvC fd s.heap.objs.size a).cells.lookup n = some b) := fun b o e n => by
    refine ⟨I.toInCall.keep b o e, fun q => ?_⟩
    have := old b o e
    rcases q with q | q | ⟨x, q⟩
    · exact n q
    · exact absurd this (by rw [q]; exact Nat.lt_irrefl _)
    · exact absurd this (Nat.lt_asymm (ge x b q))
  exact {
    ns := I.toInCall.ns
    cell := I.cell
    stays := I.toInCall.keep
    dom := fun b e => by
      rcases e with e | e | ⟨n, e⟩
      · obtain ⟨ob, q⟩ := hX b e; exact ⟨ob, I.toInCall.keep _ _ q⟩
      · obtain ⟨ob, _, _, q, _⟩ := I.toInCall.ns; subst e; rw [hL] at q; exact ⟨ob, q⟩
      · obtain ⟨ob, q, _⟩ := I.cell n b e; exact ⟨ob, q⟩
    sub := fun b e => .inl e
    gL := by show s.heap.get? (callEnvC fd s.heap.objs.size a).locals = none; rw [hL]; exact newNone rfl
    XL := .inr (.inl hL)
    XC := fun n b e => ⟨.inr (.inr ⟨n, e⟩), by have := ge n b e; show b ≠ (callEnvC fd s.heap.objs.size a).locals; rw [hL]; exact Nat.ne_of_gt this⟩
    gC := fun n b e _ => Heap.get?_none_of_le (Nat.le_of_lt (ge n b e))
    CC := I.apart
    vars := fun n lv e => let ⟨v, h1, h2⟩ := hv n lv e; ⟨v, h1, h2.mono fit⟩
    tmps := fun q hq => nomatch hq
    owns := fun q hq => nomatch hq
    nodup := .nil }

theorem FnC.of1 {prog : Program} {w : World} {fa : Str → Addr} {mg mb : Str → Option Value} {k i : Nat} {n x : Str} {p : LV} {R : LV → Prop} (hm : (n, i) ∈ fnTable)
    (hbind : ∀ kV doc pm an cd ct u, bindArgs (fdOf n i kV doc pm an cd ct) ⟨[u], []⟩ = pure [(x, u)])
    (hx : (sAt i).names.lookup x = some .local)
    (body : ∀ kV doc pm an cd ct L g X A s, Room k A → A.handled = none → Tp fa mg mb g → Exs (cxOf prog w (fdOf n i kV doc pm an cd ct) L (fa n) g X) A s [(x, p)] [] [] (bAt i) (RetQ (cxOf prog w (fdOf n i kV doc pm an cd ct) L (fa n) g X) s R) NoE)
    (hco : (sAt i).isCoroutine = false := by rfl) (hgen : (sAt i).isGenerator = false := by rfl) (hk : (sAt i).kind = .function := by rfl) : FnC prog w fa mg mb (k + 1) n p R := by
  intro A s h tk X u Q E hA hh T hX hu kk
  obtain ⟨hmg, oc, od, osl, kV, doc, pm, an, cd, ct, ho, hcd, _⟩ := T.fn (n, i) hm
  refine wpAny_call (codeAny_call_cells (s := St s h tk) (fd := fdOf n i kV doc pm an cd ct) (body := bAt i) (binds := [(x, u)]) (by have := hA.dp; lia  ) ho rfl T.lim hcd rfl (hbind kV doc pm an cd ct u) rfl
    (fun y hy => by rw [List.mem_singleton.mp hy]; exact .inl hx) (fun s₁ I => ?_) hco hgen hk)
  obtain ⟨h₁, tk₁, hs⟩ := I.toInCall.same
  have C : Cfg (cxOf prog w (fdOf n i kV doc pm an cd ct) h.objs.size (fa n) h X) [(x, p)] [] [] s₁.heap := by
    refine cfg_enter hX rfl I fun y lv e => ?_
    rw [List.lookup_cons] at e
    cases hb : y == x with
    | false => rw [hb] at e; cases e
    | true =>
      rw [hb] at e; cases e
      have hy := beq_iff_eq.mp hb
      subst hy
      have hkx : (callEnvC (fdOf n i kV doc pm an cd ct) h.objs.size (fa n)).kindOf y = some .local := hx
      refine ⟨u, ?_, hu⟩
      show slotV (callEnvC (fdOf n i kV doc pm an cd ct) h.objs.size (fa n)) (bindL (callEnvC (fdOf n i kV doc pm an cd ct) h.objs.size (fa n)).kindOf [(y, u)] fun _ => none) _ y = some u
      unfold slotV
      rw [if_pos hkx]
      unfold bindL
      rw [if_pos hkx]
      unfold bindL
      simp
  have hs' : s₁ = St s s₁.heap s₁.toks := by rw [hs]
  rw [hs']
  refine wpAny_mono (body kV doc pm an cd ct h.objs.size h X _ s (hA.deeper _) hh T s₁.heap s₁.toks C) (fun f s' hr => ?_) fun _ _ f => f.elim
  obtain ⟨v, r, h', tk', rfl, rfl, hR, g, hd⟩ := hr
  exact kk v r h' tk' hR g hd

section
variable {c : Cx} {A : Around} {s : Shared} {d : List (Str × LV)} {o : List (Addr × OV)} {fa : Str → Addr} {mg mb : Str → Option Value}

theorem Cfg.tp {ts : List (Value × LV)} {h : Heap} (C : Cfg c d o ts h) (T : Tp fa mg mb c.g) : Tp fa mg mb h := let ⟨_, _, _, C⟩ := C; T.gr C.stays

/-- a call of a def of the text -/
theorem Ev.call {f : Str} {i k : Nat} {np pos : Pos} {e : Expr} {p : LV} {R : LV → Prop} (T : Tp fa mg mb c.g) (hA : Room k A) (hh : A.handled = none) (hm : (f, i) ∈ fnTable) (hF : FnC c.prog c.w fa mg mb k f p R) (H : EvP c A s d o e p)
    (hk : c.env.scope.kind = .function := by rfl) (hx : c.env.kindOf f = some .globalImplicit := by rfl) (hn : (f == ("__debug__" : Str)) = false := by decide) (hgl : c.env.globals = mainGlobals := by rfl)
    (he : starEach [e] c.env = [(false, eval e c.env)] := by rfl) :
    Ev c A s d o (.Call (.Name f np) [e] [] pos) (fun lv o' => R lv ∧ o' = o) := by
  intro ts h tk Q E C kk
  have T1 := C.tp T
  refine Call_ (wp_glob (hgl ▸ T1.G) (T1.fn (f, i) hm).1 ?_ hk hx hn)
  obtain ⟨_, oc, od, osl, kV, doc, pm, an, cd, ct, ho, _, _⟩ := T.fn (f, i) hm
  refine callWith_def (o := ⟨oc, od, .func (fdOf f i kV doc pm an cd ct), osl⟩) (fd := fdOf f i kV doc pm an cd ct) rfl (args_cons (H _ _ _ _ _ C fun u h1 t1 C1 => args_nil ?_) he) he
  have T2 := Cfg.tp C1 T
  obtain ⟨X, m, cm, CI⟩ := C1
  exact ⟨CI.stays _ _ ho, hF _ _ _ _ X _ _ _ hA hh T2 CI.dom (CI.tmps (u, p) (by simp)) fun v r h' tk' hR g hd => kk v h' tk' _ _ ⟨hR, rfl⟩ ⟨X, m, cm, ((CI.sub_ts fun q hq => List.mem_cons_of_mem _ hq).ext g).push hd⟩⟩

/-- a call of a built-in function, of a built-in type -/
theorem EvP.blt1 {f : Str} {id : String} {np pos : Pos} {e : Expr} {l1 : LV} {p r : PyData} (T : Tp fa mg mb c.g) (hA : Room 1 A) (hm : (f, Value.builtin id) ∈ bltTable) (H : EvP c A s d o e l1) (r1 : Rd o l1 p) (hop : Op1 A (fun u => call (.builtin id) [u]) p r)
    (hk : c.env.scope.kind = .function := by rfl) (hx : c.env.kindOf f = some .globalImplicit := by rfl) (hn : (f == ("__debug__" : Str)) = false := by decide) (hgl : c.env.globals = mainGlobals := by rfl) (hbl : c.env.builtins = builtinsNs := by rfl)
    (he : starEach [e] c.env = [(false, eval e c.env)] := by rfl) : EvP c A s d o (.Call (.Name f np) [e] [] pos) (.p r) := by
  intro ts h tk Q E C kk
  have T1 := C.tp T
  refine Call_ (wp_blt (hgl ▸ T1.G) (T1.bt _ hm).1 (hbl ▸ T1.B) (T1.bt _ hm).2 ?_ hk hx hn)
  refine callWith_builtin1 (args_cons (H _ _ _ _ _ C fun u h1 t1 C1 => args_nil ?_) he) he
  obtain ⟨X, m, cm, CI⟩ := C1
  exact hop _ _ _ _ _ X _ _ _ hA CI.dom (CI.rd r1 (by simp)) fun v h' tk' g hd => kk v h' tk' (CI.done1 g hd)
theorem EvP.blt2 {f : Str} {id : String} {np pos : Pos} {e e' : Expr} {l1 l2 : LV} {p q r : PyData} (T : Tp fa mg mb c.g) (hA : Room 1 A) (hm : (f, Value.builtin id) ∈ bltTable) (H : EvP c A s d o e l1) (H' : EvP c A s d o e' l2) (r1 : Rd o l1 p) (r2 : Rd o l2 q)
    (hop : Op2 A (fun u v => call (.builtin id) [u, v]) p q r)
    (hk : c.env.scope.kind = .function := by rfl) (hx : c.env.kindOf f = some .globalImplicit := by rfl) (hn : (f == ("__debug__" : Str)) = false := by decide) (hgl : c.env.globals = mainGlobals := by rfl) (hbl : c.env.builtins = builtinsNs := by rfl)
    (he : starEach [e, e'] c.env = [(false, eval e c.env), (false, eval e' c.env)] := by rfl) (he' : starEach [e'] c.env = [(false, eval e' c.env)] := by rfl) : EvP c A s d o (.Call (.Name f np) [e, e'] [] pos) (.p r) := by
  intro ts h tk Q E C kk
  have T1 := C.tp T
  refine Call_ (wp_blt (hgl ▸ T1.G) (T1.bt _ hm).1 (hbl ▸ T1.B) (T1.bt _ hm).2 ?_ hk hx hn)
  refine callWith_builtin1 (args_cons (H _ _ _ _ _ C fun u h1 t1 C1 => args_cons (H' _ _ _ _ _ C1 fun v h2 t2 C2 => args_nil ?_) he') (by rw [he, he'])) (by rw [he, he']) (by rw [he']; rfl)
  obtain ⟨X, m, cm, CI⟩ := C2
  exact hop _ _ _ _ _ X _ _ _ _ hA CI.dom (CI.rd r1 (by simp)) (CI.rd r2 (by simp)) fun v h' tk' g hd => kk v h' tk' (CI.done2 g hd)
/-- a method of a text's, a list's -/
theorem EvP.meth1 {ov e : Expr} {name : Str} {apos pos : Pos} {l0 l1 : LV} {p q r : PyData} {T id : String} {pl : Sem Bool} (hA : Room 1 A) (H : EvP c A s d o ov l0) (H1 : EvP c A s d o e l1) (r0 : Rd o l0 p) (r1 : Rd o l1 q)
    (hT : ∀ (h : Heap) (X : AP) (v : Value) (s : Shared) (tk : Nat), DenT h X p v → (St s h tk).TypeIs v T ∧ ∀ a, v = .ref a → ∃ ob, h.get? a = some ob ∧ ob.dict = none)
    (pa : PlainAttrs T) (slot : Slot T name id) (hty : typeOf (.builtin id) = pure (.type "method_descriptor")) (hop : Op2 A (fun u v => call (.builtin id) [u, v]) p q r)
    (hm : eval (.Call (.Attribute ov name apos) [e] [] pos) c.env = (do
      let v ← eval ov c.env
      standAt apos.atName
      let (f, first) ← holding [v] (getMethod v name pl)
      callWith pos f first (backTo pos (starEach [e] c.env)) []) := by rfl)
    (he : starEach [e] c.env = [(false, eval e c.env)] := by rfl) : EvP c A s d o (.Call (.Attribute ov name apos) [e] [] pos) (.p r) := by
  intro ts h tk Q E C kk
  refine MethodCall_ (pl := pl) (H _ _ _ _ _ C fun u h1 t1 C1 => ?_) hm
  have D : (St s h1 t1).TypeIs u T ∧ ∀ a, u = .ref a → ∃ ob, h1.get? a = some ob ∧ ob.dict = none := by
    obtain ⟨X, m, cm, CI⟩ := C1
    exact hT _ _ _ _ _ (CI.rd r0 (by simp))
  refine getMethod_builtin D.1 pa slot hty D.2 ?_
  refine callWith_method1 (args_cons (H1 _ _ _ _ _ C1 fun v h2 t2 C2 => args_nil ?_) he) he
  obtain ⟨X, m, cm, CI⟩ := C2
  exact hop _ _ _ _ _ X _ _ _ _ hA CI.dom (CI.rd r0 (by simp)) (CI.rd r1 (by simp)) fun v h' tk' g hd => kk v h' tk' (CI.done2 g hd)
end
end Mine
end

section
open PySem PySem.W PyProof.Rows PySem.Calls
set_option linter.unusedVariables false
namespace Mine

section
variable {c : Cx} {A : Around} {s : Shared} {d : List (Str × LV)} {o : List (Addr × OV)} {ts : List (Value × LV)} {Q : Flow → Shared → Prop} {E : Value → Shared → Prop}

theorem Cfg.frz {x : Str} {a : Addr} {xs : List PyData} {h : Heap} (C : Cfg c d ((a, .lst xs) :: o) ts h) (hx : d.lookup x = some (.at a)) : Cfg c ((x, .p (.list xs)) :: d) o ts h := by
  obtain ⟨X, m, cm, C⟩ := C
  have D := C.freeze
  refine ⟨_, m, cm, { (D.sub_ts (ts' := ts) fun q hq => List.mem_cons_of_mem _ hq) with vars := fun n lv e => ?_ }⟩
  rw [List.lookup_cons] at e
  cases hb : n == x with
  | true =>
    rw [hb] at e; cases e
    have := beq_iff_eq.mp hb; subst this
    obtain ⟨v, h1, h2⟩ := D.vars n _ hx
    have e2 : v = .ref a := h2
    subst e2
    exact ⟨_, h1, D.tmps (.ref a, .p (.list xs)) (by simp)⟩
  | false => rw [hb] at e; exact D.vars n lv e
theorem Exs.frz {x : Str} {a : Addr} {xs : List PyData} {b : List Stmt} (hx : d.lookup x = some (.at a)) (H : Exs c A s ((x, .p (.list xs)) :: d) o ts b Q E) : Exs c A s d ((a, .lst xs) :: o) ts b Q E :=
  fun h tk C => H h tk (C.frz hx)
theorem Exs.sub_d {d' : List (Str × LV)} {b : List Stmt} (e : ∀ n lv, d'.lookup n = some lv → d.lookup n = some lv) (H : Exs c A s d' o ts b Q E) : Exs c A s d o ts b Q E := fun h tk C => H h tk (C.sub_d e)

noncomputable def seqQ (c : Cx) (A : Around) (rest : List Stmt) (Q : Flow → Shared → Prop) (E : Value → Shared → Prop) (f : Flow) (s' : Shared) : Prop := match f with
  | .next => wpAny (model c.prog c.w) A (execs rest c.env) Q E s'
  | f => Q f s'
theorem Exs.cons {st : Stmt} {rest : List Stmt} (H : ∀ h tk, Cfg c d o ts h → wpAny (model c.prog c.w) A (exec st c.env) (seqQ c A rest Q E) E (St s h tk)) : Exs c A s d o ts (st :: rest) Q E :=
  fun h tk C => wpAny_execs_cons (wpAny_mono (H h tk C) (fun f s' q => by cases f <;> exact q) fun _ _ e => e)
theorem Exs.nil (H : ∀ h tk, Cfg c d o ts h → Q .next (St s h tk)) : Exs c A s d o ts [] Q E := fun h tk C => wpAny_execs_nil (H h tk C)
theorem Exs.nilS {rest : List Stmt} {E' : Value → Shared → Prop} (H : Exs c A s d o ts rest Q E) : Exs c A s d o ts [] (seqQ c A rest Q E) E' := fun h tk C => wpAny_execs_nil (H h tk C)

/-- a name is stored -/
noncomputable def Tgt (c : Cx) (A : Around) (s : Shared) (t : Expr) (lv : LV) (d d' : List (Str × LV)) : Prop :=
  ∀ (o : List (Addr × OV)) (ts : List (Value × LV)) (v : Value) (h : Heap) (tk : Nat) (Q : Unit → Shared → Prop) (E : Value → Shared → Prop), Cfg c d o ((v, lv) :: ts) h → (∀ h' tk', Cfg c d' o ts h' → Q () (St s h' tk')) →
    wpAny (model c.prog c.w) A (assign t c.env v) Q E (St s h tk)
theorem stn_loc {x : Str} {lv : LV} {v : Value} {h : Heap} {tk : Nat} {Q : Unit → Shared → Prop} {E : Value → Shared → Prop} (C : Cfg c d o ((v, lv) :: ts) h) (k : ∀ h' tk', Cfg c ((x, lv) :: d) o ts h' → Q () (St s h' tk'))
    (hx : c.env.kindOf x = some .local := by rfl) (hk : c.env.scope.kind = .function := by rfl) : wpAny (model c.prog c.w) A (storeName c.env x v) Q E (St s h tk) := by
  obtain ⟨X, m, cm, C⟩ := C
  exact wpAny_storeName_local hx C.ns (fun h' hn hs => k h' _ ⟨X, _, cm, C.store hx hn hs⟩) (by rw [hk]; rfl)
theorem stn_cel {x : Str} {lv : LV} {v : Value} {h : Heap} {tk : Nat} {Q : Unit → Shared → Prop} {E : Value → Shared → Prop} (C : Cfg c d o ((v, lv) :: ts) h) (k : ∀ h' tk', Cfg c ((x, lv) :: d) o ts h' → Q () (St s h' tk'))
    (hx : c.env.kindOf x = some .cell := by rfl) (hc : (c.env.cells.lookup x).isSome = true := by rfl) (ho : c.own x = true := by rfl) (hk : c.env.scope.kind = .function := by rfl) :
    wpAny (model c.prog c.w) A (storeName c.env x v) Q E (St s h tk) := by
  obtain ⟨X, m, cm, C⟩ := C
  obtain ⟨a, ha⟩ := Option.isSome_iff_exists.mp hc
  exact wpAny_storeName_cell hk hx ha (C.cell x a ha) fun h' hn hs => k h' _ ⟨X, m, _, C.storeC (by rw [hx]; decide) ha ho hn hs⟩
theorem Tgt.loc {x : Str} {px : Pos} {lv : LV} (hx : c.env.kindOf x = some .local := by rfl) (hk : c.env.scope.kind = .function := by rfl) : Tgt c A s (.Name x px) lv d ((x, lv) :: d) :=
  fun o ts v h tk Q E C k => wpAny_assign_Name (stn_loc C k hx hk)
theorem Tgt.cel {x : Str} {px : Pos} {lv : LV} (hx : c.env.kindOf x = some .cell := by rfl) (hc : (c.env.cells.lookup x).isSome = true := by rfl) (ho : c.own x = true := by rfl) (hk : c.env.scope.kind = .function := by rfl) :
    Tgt c A s (.Name x px) lv d ((x, lv) :: d) := fun o ts v h tk Q E C k => wpAny_assign_Name (stn_cel C k hx hc ho hk)

theorem Exs.asg {x : Str} {px pos : Pos} {e : Expr} {rest : List Stmt} {R : LV → List (Addr × OV) → Prop} (H : Ev c A s d o e R) (k : ∀ lv o', R lv o' → Exs c A s ((x, lv) :: d) o' ts rest Q E)
    (hx : c.env.kindOf x = some .local := by rfl) (hk : c.env.scope.kind = .function := by rfl) (hs : swapsWith e (some (.Name x px)) pos.line c.env = pure false := by rfl) :
    Exs c A s d o ts (.Assign [.Name x px] e pos :: rest) Q E :=
  .cons fun h tk C => wpAny_Assign_Name (H _ _ _ _ _ C fun v h' tk' lv o' r C' => stn_loc C' (fun h2 t2 C2 => k lv o' r h2 t2 C2) hx hk) hs
theorem Exs.asgC {x : Str} {px pos : Pos} {e : Expr} {rest : List Stmt} {R : LV → List (Addr × OV) → Prop} (H : Ev c A s d o e R) (k : ∀ lv o', R lv o' → Exs c A s ((x, lv) :: d) o' ts rest Q E)
    (hx : c.env.kindOf x = some .cell := by rfl) (hc : (c.env.cells.lookup x).isSome = true := by rfl) (ho : c.own x = true := by rfl) (hk : c.env.scope.kind = .function := by rfl) (hs : swapsWith e (some (.Name x px)) pos.line c.env = pure false := by rfl) :
    Exs c A s d o ts (.Assign [.Name x px] e pos :: rest) Q E :=
  .cons fun h tk C => wpAny_Assign_Name (H _ _ _ _ _ C fun v h' tk' lv o' r C' => stn_cel C' (fun h2 t2 C2 => k lv o' r h2 t2 C2) hx hc ho hk) hs
theorem Exs.set {x : Str} {px pos : Pos} {e : Expr} {rest : List Stmt} {lv : LV} (H : EvP c A s d o e lv) (k : Exs c A s ((x, lv) :: d) o ts rest Q E)
    (hx : c.env.kindOf x = some .local := by rfl) (hk : c.env.scope.kind = .function := by rfl) (hs : swapsWith e (some (.Name x px)) pos.line c.env = pure false := by rfl) :
    Exs c A s d o ts (.Assign [.Name x px] e pos :: rest) Q E := .asg H.toEv (fun _ _ r => by obtain ⟨rfl, rfl⟩ := r; exact k) hx hk hs
theorem Exs.setC {x : Str} {px pos : Pos} {e : Expr} {rest : List Stmt} {lv : LV} (H : EvP c A s d o e lv) (k : Exs c A s ((x, lv) :: d) o ts rest Q E)
    (hx : c.env.kindOf x = some .cell := by rfl) (hc : (c.env.cells.lookup x).isSome = true := by rfl) (ho : c.own x = true := by rfl) (hk : c.env.scope.kind = .function := by rfl) (hs : swapsWith e (some (.Name x px)) pos.line c.env = pure false := by rfl) :
    Exs c A s d o ts (.Assign [.Name x px] e pos :: rest) Q E := .asgC H.toEv (fun _ _ r => by obtain ⟨rfl, rfl⟩ := r; exact k) hx hc ho hk hs

theorem Exs.ite {t : Expr} {a b rest : List Stmt} {pos : Pos} {k : Bool} (H : TsP c A s d o t k) (H1 : k = true → Exs c A s d o ts a (seqQ c A rest Q E) E) (H2 : k = false → Exs c A s d o ts b (seqQ c A rest Q E) E) :
    Exs c A s d o ts (.If t a b pos :: rest) Q E :=
  .cons fun h tk C => wpAny_If (H _ _ _ _ _ C fun h' tk' C' => by
    cases k with
    | true => exact H1 rfl _ _ C'
    | false => exact H2 rfl _ _ C')
theorem Exs.retP {e : Expr} {pos : Pos} {rest : List Stmt} {lv : LV} (H : EvP c A s d o e lv) (k : ∀ v h tk, Cfg c d o ((v, lv) :: ts) h → Q (.ret v) (St s h tk)) :
    Exs c A s d o ts (.Return (some e) pos :: rest) Q E := .cons fun h tk C => wpAny_Return_some (H _ _ _ _ _ C fun v h' tk' C' => k v h' tk' C')
theorem RetQ.of {R : LV → Prop} {v : Value} {p : LV} {h : Heap} {tk : Nat} (C : Cfg c d o ((v, p) :: ts) h) (r : R p) : RetQ c s R (.ret v) (St s h tk) := by
  obtain ⟨X, m, cm, C⟩ := C
  exact ⟨v, p, h, tk, rfl, rfl, r, C.stays, LVden.mono (fun b ob e n => ⟨e, fun q => n (C.sub b q)⟩) (C.tmps (v, p) (by simp))⟩
theorem RetQ.own {R : LV → Prop} {v : Value} {a : Addr} {xs : List PyData} {h : Heap} {tk : Nat} (C : Cfg c d ((a, .lst xs) :: o) ((v, .at a) :: ts) h) (r : R (.p (.list xs))) : RetQ c s R (.ret v) (St s h tk) := by
  obtain ⟨X, m, cm, C⟩ := C
  have e : v = .ref a := C.tmps (v, .at a) (by simp)
  subst e
  exact RetQ.of (ts := (.ref a, .at a) :: ts) ⟨_, m, cm, C.freeze⟩ r

theorem Exs.brk {pos : Pos} {rest : List Stmt} (k : ∀ h tk, Cfg c d o ts h → Q .brk (St s h tk)) : Exs c A s d o ts (.Break pos :: rest) Q E := .cons fun h tk C => fun _ _ _ => k h tk C
theorem Exs.cont {pos : Pos} {rest : List Stmt} (k : ∀ h tk, Cfg c d o ts h → Q .cont (St s h tk)) : Exs c A s d o ts (.Continue pos :: rest) Q E := .cons fun h tk C => fun _ _ _ => k h tk C

/-- xs.append(e) on a list of the frame's own -/
theorem Exs.app {ov e : Expr} {apos cpos pos : Pos} {rest : List Stmt} {a : Addr} {xs : List PyData} {y : PyData} {o' : List (Addr × OV)} {pl : Sem Bool} (H : EvP c A s d o ov (.at a)) (H1 : EvP c A s d o e (.p y)) (u : OUp a (.lst xs) (.lst (xs ++ [y])) o o')
    (hz : xs.length ≤ sizeLine) (k : Exs c A s d o' ts rest Q E)
    (hm : eval (.Call (.Attribute ov (Str.ofString "append") apos) [e] [] cpos) c.env = (do
      let v ← eval ov c.env
      standAt apos.atName
      let (f, first) ← holding [v] (getMethod v (Str.ofString "append") pl)
      callWith cpos f first (backTo cpos (starEach [e] c.env)) []) := by rfl)
    (he : starEach [e] c.env = [(false, eval e c.env)] := by rfl) (hi : interactive c.env = false := by rfl) (hs : swapsWith (.Call (.Attribute ov (Str.ofString "append") apos) [e] [] cpos) none pos.line c.env = pure false := by rfl) :
    Exs c A s d o ts (.Expr (.Call (.Attribute ov (Str.ofString "append") apos) [e] [] cpos) pos :: rest) Q E := by
  refine .cons fun h tk C => wpAny_Expr (MethodCall_ (pl := pl) (H _ _ _ _ _ C fun v h1 t1 C1 => ?_) hm) hi hs
  have e1 : v = .ref a := by obtain ⟨X, m, cm, C1⟩ := C1; exact C1.tmps (v, .at a) (by simp)
  subst e1
  have L1 : ∃ vs n, h1.get? a = some (listO vs n) := by
    obtain ⟨X, m, cm, C1⟩ := C1
    obtain ⟨vs, n, e1, _⟩ := (C1.owns _ u.mem).1
    exact ⟨vs, n, e1⟩
  obtain ⟨vs1, n1, e1⟩ := L1
  refine getMethod_list_append e1 rfl rfl ?_
  refine callWith_method1 (args_cons (H1 _ _ _ _ _ C1 fun v h2 t2 C2 => args_nil ?_) he) he
  obtain ⟨X, m, cm, C2⟩ := C2
  obtain ⟨vs, n, e2, D2⟩ := (C2.owns _ u.mem).1
  have hl := D2.length
  refine wpAny_list_append_plain (items := vs.toArray) ⟨n, e2⟩ (fun h3 hp hs3 => ?_) (by simp; lia  )
  have C3 : CfgI c X m cm d o' _ h3 := C2.up u hs3 (by
    obtain ⟨n3, e3⟩ := hp
    refine ⟨vs ++ [v], n3, by simpa [listO] using e3, ?_⟩
    exact (D2.append (.one (C2.tmps (v, .p y) (by simp)))).mono (.but hs3 (C2.owns _ u.mem).2.1))
  exact k _ _ ⟨X, m, cm, C3.sub_ts fun q hq => List.mem_cons_of_mem _ (List.mem_cons_of_mem _ hq)⟩
end
end Mine
end

section
open PySem PySem.W PyProof.Rows PySem.Calls
set_option linter.unusedVariables false
namespace Mine

/-- an iterator of v hands on the items -/
noncomputable def IterTo (c : Cx) (A : Around) (s : Shared) (d : List (Str × LV)) (o : List (Addr × OV)) (l0 : LV) (items : List LV) (K : Obj → Prop := fun _ => True) : Prop :=
  ∀ (X : AP) (m cm : Str → Option Value) (ts : List (Value × LV)) (v : Value) (h : Heap) (tk : Nat) (Q : Value → Shared → Prop) (E : Value → Shared → Prop), CfgI c X m cm d o ((v, l0) :: ts) h →
    (∀ I ob tsN h' tk' fp P St0, CfgI c (fun b => X b ∨ b = I) m cm d ((I, .raw ob) :: o) (tsN ++ ts) h' → Gr h h' → h.get? I = none → Walks c.prog c.w A I fp [I] items.length P St0 → St0 0 h' → (∀ i h, St0 i h → ∃ ob, h.get? I = some ob ∧ K ob) →
      (∀ b ∈ fp, b = I ∨ ∃ ob', (Value.ref b, LV.pin ob') ∈ tsN) → (∀ i v, P i v → i < items.length → ∃ lv, items[i]? = some lv ∧ ((v, lv) ∈ tsN ∨ ∀ h X, LVden h X lv v)) → Q (.ref I) (St s h' tk')) →
    wpAny (model c.prog c.w) A (pyIter v) Q E (St s h tk)

inductive LAt (c : Cx) (s : Shared) (ts' : List (Value × LV)) (I : Addr) (ob : Obj) (J : List (Str × LV) → List (Addr × OV) → Prop) : Shared → Prop
  | mk (h : Heap) (tk : Nat) (d : List (Str × LV)) (o : List (Addr × OV)) (j : J d o) (C : Cfg c d ((I, .raw ob) :: o) ts' h) : LAt c s ts' I ob J (St s h tk)
noncomputable def LoopQ (c : Cx) (s : Shared) (ts' : List (Value × LV)) (I : Addr) (ob : Obj) (J : List (Str × LV) → List (Addr × OV) → Prop) (B : List (Str × LV) → List (Addr × OV) → Prop) (Q : Flow → Shared → Prop) (f : Flow) (s' : Shared) : Prop :=
  match f with
  | .ret v => Q (.ret v) s'
  | .brk => LAt c s ts' I ob B s'
  | _ => LAt c s ts' I ob J s'
section
variable {c : Cx} {A : Around} {s : Shared} {d : List (Str × LV)} {o : List (Addr × OV)} {ts : List (Value × LV)} {Q : Flow → Shared → Prop} {E : Value → Shared → Prop}
theorem LoopQ.next {ts' : List (Value × LV)} {I : Addr} {ob : Obj} {J B : List (Str × LV) → List (Addr × OV) → Prop} {h : Heap} {tk : Nat} (C : Cfg c d ((I, .raw ob) :: o) ts' h) (j : J d o) : LoopQ c s ts' I ob J B Q .next (St s h tk) := ⟨h, tk, d, o, j, C⟩
theorem LoopQ.cont {ts' : List (Value × LV)} {I : Addr} {ob : Obj} {J B : List (Str × LV) → List (Addr × OV) → Prop} {h : Heap} {tk : Nat} (C : Cfg c d ((I, .raw ob) :: o) ts' h) (j : J d o) : LoopQ c s ts' I ob J B Q .cont (St s h tk) := ⟨h, tk, d, o, j, C⟩
theorem LoopQ.brk {ts' : List (Value × LV)} {I : Addr} {ob : Obj} {J B : List (Str × LV) → List (Addr × OV) → Prop} {h : Heap} {tk : Nat} (C : Cfg c d ((I, .raw ob) :: o) ts' h) (j : B d o) : LoopQ c s ts' I ob J B Q .brk (St s h tk) := ⟨h, tk, d, o, j, C⟩

/-- what holds at a loop's head -/
inductive LoopI (c : Cx) (s : Shared) (J : List LV → List (Str × LV) → List (Addr × OV) → Prop) (St0 : Nat → Heap → Prop) (ts : List (Value × LV)) (items : List LV) (I : Addr) (n : Nat) : Shared → Prop
  | mk (h' : Heap) (tk' : Nat) (d' : List (Str × LV)) (o' : List (Addr × OV)) (i : Nat) (ob' : Obj) (hi : i ≤ items.length) (hn : n = items.length - i) (hJ : J (items.take i) d' o') (hst : St0 i h') (C : Cfg c d' ((I, .raw ob') :: o') ts h') : LoopI c s J St0 ts items I n (St s h' tk')
theorem Cfg.upRaw {I : Addr} {ob ob3 : Obj} {h h3 : Heap} (C : Cfg c d ((I, .raw ob) :: o) ts h) (hk : ∀ b ob, b ∉ [I] → h.get? b = some ob → h3.get? b = some ob) (e : h3.get? I = some ob3) : Cfg c d ((I, .raw ob3) :: o) ts h3 := by
  obtain ⟨X, m, cm, C⟩ := C
  exact ⟨X, m, cm, C.upE (.head) (fun b ob hb e => hk b ob (by simpa using hb) e) e⟩
theorem Cfg.dropRaw {I : Addr} {ob : Obj} {h h3 : Heap} (C : Cfg c d ((I, .raw ob) :: o) ts h) (hk : ∀ b ob, b ∉ [I] → h.get? b = some ob → h3.get? b = some ob) : Cfg c d o ts h3 := by
  obtain ⟨X, m, cm, C⟩ := C
  exact ⟨_, m, cm, C.dropE (fun b ob hb e => hk b ob (by simpa using hb) e)⟩
theorem Cfg.item {h : Heap} {v : Value} {lv : LV} (C : Cfg c d o ts h) (hd : (v, lv) ∈ ts ∨ ∀ h X, LVden h X lv v) : Cfg c d o ((v, lv) :: ts) h := by
  rcases hd with hd | hd
  · refine C.sub_ts fun q hq => ?_
    rcases List.mem_cons.mp hq with rfl | hq
    · exact hd
    · exact hq
  · obtain ⟨X, m, cm, C⟩ := C
    exact ⟨X, m, cm, C.push (hd _ _)⟩
theorem items_split {items : List LV} {i : Nat} {lv : LV} (e : items[i]? = some lv) : items = items.take i ++ lv :: items.drop (i + 1) := by
  obtain ⟨e1, e2⟩ := List.getElem?_eq_some_iff.mp e
  rw [← e2]; simp
theorem items_take {items : List LV} {i : Nat} {lv : LV} (e : items[i]? = some lv) : items.take (i + 1) = items.take i ++ [lv] := by rw [List.take_add_one, e]; rfl
theorem Cfg.pinned {d6 : List (Str × LV)} {o6 : List (Addr × OV)} {ts6 : List (Value × LV)} {h h6 : Heap} {b : Addr} {ob' ob4 : Obj} (C3 : Cfg c d o ts h) (C6 : Cfg c d6 o6 ts6 h6) (h3 : (Value.ref b, LV.pin ob') ∈ ts) (h6' : (Value.ref b, LV.pin ob') ∈ ts6) (e4 : h.get? b = some ob4) :
    h6.get? b = some ob4 := by
  obtain ⟨X, _, _, C3⟩ := C3
  obtain ⟨X6, _, _, C6⟩ := C6
  obtain ⟨b3, ob3', e3, _, q3, r3⟩ := C3.tmps _ h3
  obtain ⟨b6, ob6', e6', _, q6, r6⟩ := C6.tmps _ h6'
  cases e3; cases e6'
  subst r3; subst r6
  rw [q3] at e4; cases e4
  exact q6
theorem Cfg.frame {d6 : List (Str × LV)} {o6 : List (Addr × OV)} {ts6 : List (Value × LV)} {h h6 : Heap} {I : Addr} {ob3 : Obj} {fp : List Addr} (hfp : ∀ b ∈ fp, b = I ∨ ∃ ob', (Value.ref b, LV.pin ob') ∈ ts) (hs : ∀ q ∈ ts, q ∈ ts6) (C3 : Cfg c d o ts h) (e3 : h.get? I = some ob3)
    (C6 : Cfg c d6 ((I, .raw ob3) :: o6) ts6 h6) : ∀ b ∈ fp, ∀ ob4, h.get? b = some ob4 → h6.get? b = some ob4 := by
  intro b hb ob4 e4
  rcases hfp b hb with rfl | ⟨ob', hpin⟩
  · rw [e3] at e4; cases e4
    obtain ⟨X, m, cm, C6⟩ := C6
    exact (C6.owns (b, .raw ob3) List.mem_cons_self).1
  · exact C3.pinned C6 hpin (hs _ hpin) e4
theorem Exs.forL {target iter : Expr} {body orelse rest : List Stmt} {pos : Pos} {l0 : LV} {items : List LV} (up : LV → List (Str × LV) → List (Str × LV)) (J : List LV → List (Str × LV) → List (Addr × OV) → Prop) (B : List (Str × LV) → List (Addr × OV) → Prop)
    (H : EvP c A s d o iter l0) {K : Obj → Prop} (hit : IterTo c A s d o l0 items K) (tgt : ∀ y d', y ∈ items → Tgt c A s target y d' (up y d')) (h0 : J [] d o)
    (step : ∀ done y rest' d' o' I ob ts', items = done ++ y :: rest' → J done d' o' → Exs c A s (up y d') ((I, .raw ob) :: o') ts' body (LoopQ c s ts' I ob (J (done ++ [y])) B Q) NoE)
    (fin : ∀ d' o', J items d' o' → Exs c A s d' o' ts orelse (seqQ c A rest Q E) NoE)
    (bfin : ∀ d' o', B d' o' → Exs c A s d' o' ts rest Q E)
    (hs : ∀ x, foldedSetIterable iter c.env x = pure x := by intro _; rfl) (hg : ∀ it v, letOwnedTupleGo target it v = pure () := by intro _ _; rfl) :
    Exs c A s d o ts (.For target iter body orelse pos :: rest) Q E := by
  refine .cons fun h tk C => wpAny_For (H _ _ _ _ _ C fun v h1 t1 ⟨X, m, cm, C1⟩ => hit X m cm _ _ _ _ _ _ C1 fun I ob tsN h2 t2 fp P St0 C2 _ _ W hst hI hfp hP => ?_) hs
  refine codeAny_forLoop (LoopI c s J St0 (tsN ++ ts) items I) ?_ items.length (.mk h2 t2 d o 0 ob (Nat.zero_le _) rfl h0 hst ⟨_, _, _, C2⟩) (hg _)
  rintro n s' ⟨h', tk', d', o', i, ob', hi, rfl, hJ, hst', C'⟩
  by_cases hlt : i < items.length
  · refine W.item i _ _ _ hlt hst' fun v h3 t3 hPv hst3 hk3 => ?_
    obtain ⟨lv, hlv, hden⟩ := hP i v hPv hlt
    obtain ⟨ob3, hob3, _⟩ := hI _ _ hst3
    have C3 := C'.upRaw hk3 hob3
    refine tgt lv d' (List.mem_of_getElem? hlv) _ _ _ _ _ _ _ (C3.item (hden.imp (List.mem_append_left _) id)) fun h5 t5 C5 => ?_
    refine wpAny_mono (step (items.take i) lv _ d' o' I ob3 (tsN ++ ts) (items_split hlv) hJ h5 t5 C5) (fun f s6 hf => ?_) fun _ _ e => e.elim
    have again : LAt c s (tsN ++ ts) I ob3 (J (items.take i ++ [lv])) s6 → ∃ m, m < items.length - i ∧ LoopI c s J St0 (tsN ++ ts) items I m s6 := by
      rintro ⟨h6, t6, d6, o6, j6, C6⟩
      refine ⟨items.length - (i + 1), by lia, .mk h6 t6 d6 o6 (i + 1) ob3 hlt rfl (items_take hlv ▸ j6) (W.frame _ _ _ hst3 ?_) C6⟩
      exact Cfg.frame (fun b hb => (hfp b hb).imp id fun ⟨ob', h⟩ => ⟨ob', List.mem_append_left _ h⟩) (fun _ h => h) C3 hob3 C6
    cases f with
    | next => exact again hf
    | cont => exact again hf
    | ret v => exact hf
    | brk =>
      obtain ⟨h6, t6, d6, o6, b6, C6⟩ := hf
      exact bfin d6 o6 b6 h6 t6 ((Cfg.sub_o C6 (List.sublist_cons_self _ _)).sub_ts fun q hq => List.mem_append_right _ hq)
  · obtain rfl : i = items.length := by lia
    refine W.done _ _ _ hst' fun h3 t3 hk3 => ?_
    rw [List.take_length] at hJ
    exact wpAny_mono (fin d' o' hJ h3 t3 ((C'.dropRaw hk3).sub_ts fun q hq => List.mem_append_right _ hq)) (fun f s4 hf => hf) fun _ _ e => e.elim
end
end Mine
end

section
open PySem PySem.W PyProof.Rows PySem.Calls
set_option linter.unusedVariables false
namespace Mine

section
variable {c : Cx} {A : Around} {s : Shared} {d : List (Str × LV)} {o : List (Addr × OV)} {ts : List (Value × LV)} {Q : Flow → Shared → Prop} {E : Value → Shared → Prop}
variable {X : AP} {m cm : Str → Option Value} {h : Heap}

theorem CfgI.newRaw (C : CfgI c X m cm d o ts h) (ob : Obj) (hf : ob.isFreed = false := by rfl) : CfgI c (fun b => X b ∨ b = h.objs.size) m cm d ((h.objs.size, .raw ob) :: o) ts (h.push ob) :=
  (C.new (a := h.objs.size) (ov := .raw ob) (fun a o' e => Heap.get?_push_of_some _ e) (newNone rfl) (Heap.get?_push_size _ hf)).sub_ts fun q hq => List.mem_cons_of_mem _ hq

theorem CfgI.withTs {ts' : List (Value × LV)} (C : CfgI c X m cm d o ts h) (e : ∀ q ∈ ts', LVden h X q.2 q.1) : CfgI c X m cm d o ts' h := { C with tmps := e }
theorem DenAll.zip {P : PyData → LV} : ∀ {ps : List PyData} {vs : List Value}, (∀ p ∈ ps, ∀ v, Den h X p v → LVden h X (P p) v) → DenAll h X ps vs → ∀ q ∈ vs.zip (ps.map P), LVden h X q.2 q.1
  | [], _, _, e, q, hq => by simp at hq
  | p :: ps, _, f, e, q, hq => by
    unfold DenAll at e
    obtain ⟨v, r, rfl, h1, h2⟩ := e
    simp only [List.map_cons, List.zip_cons_cons, List.mem_cons] at hq
    rcases hq with rfl | hq
    · exact f p (by simp) v h1
    · exact h2.zip (fun p hp => f p (List.mem_cons_of_mem _ hp)) q hq
theorem mem_zip_of {α β : Type} : ∀ {xs : List α} {ys : List β} {i : Nat} {x : α} {y : β}, xs[i]? = some x → ys[i]? = some y → (x, y) ∈ xs.zip ys
  | [], _, i, _, _, h, _ => by simp at h
  | _ :: _, [], i, _, _, _, h => by simp at h
  | a :: xs, b :: ys, 0, x, y, h1, h2 => by simp at h1 h2; subst h1; subst h2; simp
  | a :: xs, b :: ys, i + 1, x, y, h1, h2 => by simp at h1 h2; simp only [List.zip_cons_cons, List.mem_cons]; exact .inr (mem_zip_of h1 h2)

theorem IterTo.list (hh : A.handled = none) {xs : List PyData} : IterTo c A s d o (.p (.list xs)) (xs.map .p) (fun ob => ob.cls = .type "list_iterator") := by
  rintro X m cm ts v h tk Q E C k
  have D : Den h X (.list xs) v := C.tmps (v, .p (.list xs)) (by simp)
  unfold Den at D
  obtain ⟨a, vs, n, rfl, hx, ho, hd⟩ := D
  have hl := hd.length
  refine wpAny_pyIter_list (items := vs.toArray) ⟨_, ho, rfl, n, rfl⟩ ?_
  have C1 : CfgI c X m cm d o (((.ref a, .pin (listO vs n)) :: vs.zip (xs.map .p)) ++ ts) h :=
    C.withTs fun q hq => by
      rcases List.mem_append.mp hq with hq | hq
      · rcases List.mem_cons.mp hq with rfl | hq
        · exact ⟨a, _, rfl, hx, ho, rfl⟩
        · exact hd.zip (P := .p) (fun p _ v e => e) q hq
      · exact C.tmps q (List.mem_cons_of_mem _ hq)
  have C2 := C1.newRaw { cls := .type "list_iterator", data := .fields #[.ref a, .int 0 0] }
  have hne : a ≠ h.objs.size := Nat.ne_of_lt (Heap.lt_size ho)
  have W := Walks.list (prog := c.prog) (w := c.w) hh h.objs.size a hne vs.toArray
  have hsz : vs.toArray.size = (xs.map LV.p).length := by simp [hl]
  rw [hsz] at W
  refine k _ _ _ _ _ _ _ _ C2 (fun a o' e => Heap.get?_push_of_some _ e) (newNone rfl) W ⟨⟨_, Heap.get?_push_size _ rfl, rfl, rfl⟩, ⟨_, Heap.get?_push_of_some _ ho, rfl, n, rfl⟩⟩ ?_ ?_ ?_
  · rintro i h' ⟨⟨ob, e, e2, _⟩, _⟩; exact ⟨ob, e, e2⟩
  · intro b hb
    simp only [List.mem_cons, List.not_mem_nil, or_false] at hb
    rcases hb with rfl | rfl
    · exact .inl rfl
    · exact .inr ⟨_, List.mem_cons_self⟩
  · intro i v hv hi
    have hv' : vs[i]? = some v := by simpa using hv
    obtain ⟨p, hp, _⟩ := hd.get' i v hv'
    refine ⟨.p p, by simp [hp], .inl (List.mem_cons_of_mem _ (mem_zip_of hv' (by simp [hp])))⟩

theorem IterTo.tuple (hh : A.handled = none) {xs : List PyData} : IterTo c A s d o (.p (.tuple xs)) (xs.map .p) := by
  rintro X m cm ts v h tk Q E C k
  have D : Den h X (.tuple xs) v := C.tmps (v, .p (.tuple xs)) (by simp)
  unfold Den at D
  obtain ⟨a, vs, n, rfl, hx, ho, hd⟩ := D
  have hl := hd.length
  refine wpAny_pyIter_tuple (items := vs.toArray) ⟨_, ho, rfl, n, rfl⟩ ?_
  have C1 : CfgI c X m cm d o (((.ref a, .pin (tupO vs n)) :: vs.zip (xs.map .p)) ++ ts) h :=
    C.withTs fun q hq => by
      rcases List.mem_append.mp hq with hq | hq
      · rcases List.mem_cons.mp hq with rfl | hq
        · exact ⟨a, _, rfl, hx, ho, rfl⟩
        · exact hd.zip (P := .p) (fun p _ v e => e) q hq
      · exact C.tmps q (List.mem_cons_of_mem _ hq)
  have C2 := C1.newRaw { cls := .type "tuple_iterator", data := .fields #[.ref a, .int 0 0] }
  have hne : a ≠ h.objs.size := Nat.ne_of_lt (Heap.lt_size ho)
  have W := Walks.tuple (prog := c.prog) (w := c.w) hh h.objs.size a hne vs.toArray
  have hsz : vs.toArray.size = (xs.map LV.p).length := by simp [hl]
  rw [hsz] at W
  refine k _ _ _ _ _ _ _ _ C2 (fun a o' e => Heap.get?_push_of_some _ e) (newNone rfl) W ⟨⟨_, Heap.get?_push_size _ rfl, rfl, rfl⟩, ⟨_, Heap.get?_push_of_some _ ho, rfl, n, rfl⟩⟩ ?_ ?_ ?_
  · rintro i h' ⟨⟨ob, e, _⟩, _⟩; exact ⟨ob, e, trivial⟩
  · intro b hb
    simp only [List.mem_cons, List.not_mem_nil, or_false] at hb
    rcases hb with rfl | rfl
    · exact .inl rfl
    · exact .inr ⟨_, List.mem_cons_self⟩
  · intro i v hv hi
    have hv' : vs[i]? = some v := by simpa using hv
    obtain ⟨p, hp, _⟩ := hd.get' i v hv'
    refine ⟨.p p, by simp [hp], .inl (List.mem_cons_of_mem _ (mem_zip_of hv' (by simp [hp])))⟩

theorem IterTo.refs (hh : A.handled = none) {as : List Addr} : IterTo c A s d o (.refs as) (as.map .at) (fun ob => ob.cls = .type "list_iterator") := by
  rintro X m cm ts v h tk Q E C k
  obtain ⟨a, n, e, hx, ho⟩ := C.tmps (v, .refs as) (by simp)
  have e : v = .ref a := e
  subst e
  have C1 : CfgI c X m cm d o ([(.ref a, .pin (listO (as.map .ref) n))] ++ ts) h :=
    C.withTs fun q hq => by
      rcases List.mem_append.mp hq with hq | hq
      · have := List.mem_singleton.mp hq; subst this; exact ⟨a, _, rfl, hx, ho, rfl⟩
      · exact C.tmps q (List.mem_cons_of_mem _ hq)
  refine wpAny_pyIter_list (items := (as.map Value.ref).toArray) ⟨_, ho, rfl, n, rfl⟩ ?_
  have C2 := C1.newRaw { cls := .type "list_iterator", data := .fields #[.ref a, .int 0 0] }
  have hne : a ≠ h.objs.size := Nat.ne_of_lt (Heap.lt_size ho)
  have W := Walks.list (prog := c.prog) (w := c.w) hh h.objs.size a hne (as.map Value.ref).toArray
  have hsz : (as.map Value.ref).toArray.size = (as.map LV.at).length := by simp
  rw [hsz] at W
  refine k _ _ _ _ _ _ _ _ C2 (fun a o' e => Heap.get?_push_of_some _ e) (newNone rfl) W ⟨⟨_, Heap.get?_push_size _ rfl, rfl, rfl⟩, ⟨_, Heap.get?_push_of_some _ ho, rfl, n, rfl⟩⟩ ?_ ?_ ?_
  · rintro i h' ⟨⟨ob, e, e2, _⟩, _⟩; exact ⟨ob, e, e2⟩
  · intro b hb
    simp only [List.mem_cons, List.not_mem_nil, or_false] at hb
    rcases hb with rfl | rfl
    · exact .inl rfl
    · exact .inr ⟨_, List.mem_cons_self⟩
  · intro i v hv hi
    have hi' : i < as.length := by simpa using hi
    have hv' : v = .ref as[i] := by simp [hi'] at hv; exact hv.symm
    subst hv'
    exact ⟨.at as[i], by simp [hi'], .inr fun h X => rfl⟩

/-- range(a, b) -/
noncomputable abbrev LV.rng (a b : Int) : LV := .obj fun _ ob => ∃ t u v, ob = { cls := .type "range", data := .fields #[.int a t, .int b u, .int 1 v] }
theorem IterTo.range (hh : A.handled = none) {a b : Int} (h1 : -(2 ^ 62) ≤ a) (h2 : a < 2 ^ 62) (h3 : -(2 ^ 62) ≤ b) (h4 : b < 2 ^ 62) :
    IterTo c A s d o (.rng a b) ((List.range (b - a).toNat).map fun i => .p (.int (a + (i : Nat)))) := by
  rintro X m cm ts v h tk Q E C k
  obtain ⟨r, ob, e, hx, ho, t, u, v1, rfl⟩ := C.tmps (v, .rng a b) (by simp)
  have e : v = .ref r := e
  subst e
  refine wpAny_pyIter_range (a := a) (b := b) (c := 1) (t := t) (u := u) (v := v1) ho (small_one h1 h2 h3 h4) ?_
  have C2 := (C.sub_ts (ts' := ts) fun q hq => List.mem_cons_of_mem _ hq).newRaw { cls := .type "range_iterator", data := .fields #[rawInt a, rawInt (Builtin.Range.rangeSize a b 1), rawInt 1] }
  have W := Walks.range (prog := c.prog) (w := c.w) hh h.objs.size a 1 (b - a).toNat
  have hl : ((List.range (b - a).toNat).map fun i => LV.p (.int (a + (i : Nat)))).length = (b - a).toNat := by simp
  rw [← hl] at W
  refine k _ _ [] _ _ _ _ _ C2 (fun a o' e => Heap.get?_push_of_some _ e) (newNone rfl) W ?_ ?_ ?_ ?_
  · show IsRangeIter _ _ _ _ _
    have e1 : a + ((0 : Nat) : Int) * 1 = a := by simp
    have e2 : (((List.range (b - a).toNat).map fun i => LV.p (.int (a + (i : Nat)))).length : Int) - ((0 : Nat) : Int) = Builtin.Range.rangeSize a b 1 := by
      rw [rangeSize_one]; simp only [List.length_map, List.length_range]; split <;> lia  
    rw [e1, e2]
    exact Heap.get?_push_size _ rfl
  · intro i h' e; exact ⟨_, e, trivial⟩
  · intro b hb; exact .inl (List.mem_singleton.mp hb)
  · rintro i v ⟨t, rfl⟩ hi
    rw [hl] at hi
    refine ⟨.p (.int (a + (i : Nat))), by simp [hi], .inr fun h X => ?_⟩
    show Den _ _ _ _
    unfold Den
    exact ⟨t, by simp⟩

/-- a dict of texts and None -/
noncomputable abbrev LV.dct (prog : Program) (w : World) (ks : List Str) : LV := .obj fun a ob => (a == sysModules) = false ∧ ob.ExactDict ∧ ∃ es ep, ob.data = .dict es ep ∧ KeysOf (strKind prog w) es ∧ Pairs (strKind prog w) es.toList (ks.map fun k => (k, Value.none)) ∧ ks.Nodup
theorem map_fst_none (ks : List Str) : (ks.map fun k => (k, Value.none)).map (·.1) = ks := by
  rw [List.map_map]; exact List.map_id _
theorem IterTo.dct (hh : A.handled = none) {ks : List Str} : IterTo c A s d o (.dct c.prog c.w ks) (ks.map fun k => .p (.str k)) := by
  rintro X m cm ts v h tk Q E C k
  obtain ⟨a, ob, e, hx, ho, hs, hE, es, ep, hd, hk, hp, hn⟩ := C.tmps (v, .dct c.prog c.w ks) (by simp)
  have e : v = .ref a := e
  subst e
  have D : h.DictAt (strKind c.prog c.w) a (ks.map fun k => (k, Value.none)) ep := ⟨ob, es, ho, hE, hd, hk, hp, by rw [map_fst_none]; exact hn⟩
  have C1 : CfgI c X m cm d o ([(.ref a, .pin ob)] ++ ts) h :=
    C.withTs fun q hq => by
      rcases List.mem_append.mp hq with hq | hq
      · have := List.mem_singleton.mp hq; subst this; exact ⟨a, _, rfl, hx, ho, rfl⟩
      · exact C.tmps q (List.mem_cons_of_mem _ hq)
  refine wpAny_pyIter_dict hs D ?_
  have C2 := C1.newRaw { cls := .type "dict_keyiterator", data := .fields #[.ref a, .int 0 0, .int (ks.map fun k => (k, Value.none)).length 0, .int ep 0] }
  have hne : a ≠ h.objs.size := Nat.ne_of_lt (Heap.lt_size ho)
  have W := Walks.dictKeys (knd := strKind c.prog c.w) hh h.objs.size a hne (ks.map fun k => (k, Value.none)) ep
  have hl : (ks.map fun k => LV.p (.str k)).length = (ks.map fun k => (k, Value.none)).length := by simp
  rw [← hl] at W
  refine k _ _ _ _ _ _ _ _ C2 (fun a o' e => Heap.get?_push_of_some _ e) (newNone rfl) W ⟨⟨_, Heap.get?_push_size _ rfl, rfl, by rw [hl]; rfl⟩, D.push _⟩ ?_ ?_ ?_
  · rintro i h' ⟨⟨ob, e, _⟩, _⟩; exact ⟨ob, e, trivial⟩
  · intro b hb
    simp only [List.mem_cons, List.not_mem_nil, or_false] at hb
    rcases hb with rfl | rfl
    · exact .inl rfl
    · exact .inr ⟨_, List.mem_cons_self⟩
  · rintro i v ⟨k', x, hkv, hv⟩ hi
    have hi' : i < ks.length := by simpa using hi
    have e1 : k' = ks[i] := by simp [hi'] at hkv; exact hkv.1.symm
    subst e1
    refine ⟨.p (.str ks[i]), by simp [hi'], .inr fun h X => ?_⟩
    obtain ⟨t, rfl⟩ := Value.isStrOf_shape hv
    show Den _ _ _ _
    unfold Den
    exact ⟨t, rfl⟩
end
end Mine
end

section
open PySem PySem.W PyProof.Rows PySem.Calls
set_option linter.unusedVariables false
namespace Mine

inductive WAt (c : Cx) (s : Shared) (ts : List (Value × LV)) (J : List (Str × LV) → List (Addr × OV) → Prop) : Shared → Prop
  | mk (h : Heap) (tk : Nat) (d : List (Str × LV)) (o : List (Addr × OV)) (j : J d o) (C : Cfg c d o ts h) : WAt c s ts J (St s h tk)
noncomputable def WQ (c : Cx) (s : Shared) (ts : List (Value × LV)) (J B : List (Str × LV) → List (Addr × OV) → Prop) (Q : Flow → Shared → Prop) (f : Flow) (s' : Shared) : Prop :=
  match f with
  | .ret v => Q (.ret v) s'
  | .brk => WAt c s ts B s'
  | _ => WAt c s ts J s'

section
variable {c : Cx} {A : Around} {s : Shared} {d : List (Str × LV)} {o : List (Addr × OV)} {ts : List (Value × LV)} {Q : Flow → Shared → Prop} {E : Value → Shared → Prop}
theorem WQ.next {J B : List (Str × LV) → List (Addr × OV) → Prop} {h : Heap} {tk : Nat} (C : Cfg c d o ts h) (j : J d o) : WQ c s ts J B Q .next (St s h tk) := ⟨h, tk, d, o, j, C⟩
theorem Exs.whlE {test : Expr} {body rest : List Stmt} {pos : Pos} (J : Nat → List (Str × LV) → List (Addr × OV) → Prop) (B : List (Str × LV) → List (Addr × OV) → Prop) (n₀ : Nat) (h0 : J n₀ d o)
    (turn : ∀ n d' o', J n d' o' → ∃ b, TsP c A s d' o' test b ∧
      (b = true → Exs c A s d' o' ts body (WQ c s ts (fun d o => ∃ m, m < n ∧ J m d o) B Q) (notedBy (model c.prog c.w) A c.env fun e s' => cameBackBy (model c.prog c.w) A c.env E e s')) ∧
      (b = false → Exs c A s d' o' ts rest Q E))
    (bfin : ∀ d' o', B d' o' → Exs c A s d' o' ts rest Q E) : Exs c A s d o ts (.While test body [] pos :: rest) Q E := by
  refine .cons fun h tk C => wpAny_While ?_
  refine codeAny_whileLoop (fun n => WAt c s ts (J n)) ?_ n₀ ⟨h, tk, d, o, h0, C⟩
  rintro n s' ⟨h, tk, d', o', hJ, C⟩
  obtain ⟨b, hT, ht, hf⟩ := turn n d' o' hJ
  refine hT _ _ _ _ _ C fun h1 t1 C1 => ?_
  cases b with
  | true =>
    refine wpAny_mono (ht rfl h1 t1 C1) (fun f s2 hq => ?_) fun _ _ e => e
    have again : WAt c s ts (fun d o => ∃ m, m < n ∧ J m d o) s2 → ∃ m, m < n ∧ WAt c s ts (J m) s2 := by
      rintro ⟨h, tk, d, o, ⟨m, hm, j⟩, C⟩
      exact ⟨m, hm, h, tk, d, o, j, C⟩
    cases f with
    | next => exact again hq
    | cont => exact again hq
    | ret v => exact hq
    | brk =>
      obtain ⟨h, tk, d, o, b, C⟩ := hq
      exact bfin d o b h tk C
  | false => exact wpAny_execs_nil (hf rfl h1 t1 C1)
theorem Exs.whl {test : Expr} {body rest : List Stmt} {pos : Pos} (J : Nat → List (Str × LV) → List (Addr × OV) → Prop) (B : List (Str × LV) → List (Addr × OV) → Prop) (n₀ : Nat) (h0 : J n₀ d o)
    (turn : ∀ n d' o', J n d' o' → ∃ b, TsP c A s d' o' test b ∧ (b = true → Exs c A s d' o' ts body (WQ c s ts (fun d o => ∃ m, m < n ∧ J m d o) B Q) NoE) ∧ (b = false → Exs c A s d' o' ts rest Q E))
    (bfin : ∀ d' o', B d' o' → Exs c A s d' o' ts rest Q E) : Exs c A s d o ts (.While test body [] pos :: rest) Q E :=
  .whlE J B n₀ h0 (fun n d' o' j => let ⟨b, h1, h2, h3⟩ := turn n d' o' j; ⟨b, h1, fun e h tk C => wpAny_mono (h2 e h tk C) (fun _ _ q => q) fun _ _ e => e.elim, h3⟩) bfin
theorem EvP.ofEv {e : Expr} {R : LV → List (Addr × OV) → Prop} {lv : LV} (H : Ev c A s d o e R) (hR : ∀ l o', R l o' → l = lv ∧ o' = o) : EvP c A s d o e lv :=
  fun ts h tk Q E C k => H ts h tk Q E C fun v h' tk' l o' r C' => by obtain ⟨rfl, rfl⟩ := hR l o' r; exact k v h' tk' C'
end
end Mine
end

section
open PySem PySem.W PyProof.Rows PySem.Calls
set_option linter.unusedVariables false
namespace Mine

section
variable {c : Cx} {X : AP} {m cm : Str → Option Value} {d : List (Str × LV)} {o : List (Addr × OV)} {ts : List (Value × LV)} {h h' : Heap}

theorem Fits.news {os : List (Addr × OV)} (k : Gr h h') (hf : ∀ q ∈ os, h.get? q.1 = none) : Fits h X h' (fun b => X b ∨ b ∈ os.map (·.1)) := fun b ob e n =>
  ⟨k _ _ e, fun q => q.elim n fun q => by obtain ⟨x, hx, rfl⟩ := List.mem_map.mp q; rw [hf x hx] at e; cases e⟩
/-- several fresh objects become the frame's own -/
theorem CfgI.news {os : List (Addr × OV)} (C : CfgI c X m cm d o ts h) (k : Gr h h') (hf : ∀ q ∈ os, h.get? q.1 = none) (hn : (os.map (·.1)).Nodup) (ho : ∀ q ∈ os, OVden h' (fun b => X b ∨ b ∈ os.map (·.1)) q.1 q.2) :
    CfgI c (fun b => X b ∨ b ∈ os.map (·.1)) m cm d (os ++ o) ts h' where
  ns := C.ns.keeps k
  cell := fun n a e => (C.cell n a e).keeps k
  stays := fun a ob e => k a ob (C.stays a ob e)
  dom := fun b e => by
    rcases e with e | e
    · obtain ⟨ob, q⟩ := C.dom b e; exact ⟨ob, k _ _ q⟩
    · obtain ⟨x, hx, rfl⟩ := List.mem_map.mp e; exact (ho x hx).there
  sub := fun b e => .inl (C.sub b e)
  gL := C.gL
  XL := .inl C.XL
  XC := fun n b e => ⟨.inl (C.XC n b e).1, (C.XC n b e).2⟩
  gC := C.gC
  CC := C.CC
  vars := fun n lv e => let ⟨v, p, q⟩ := C.vars n lv e; ⟨v, p, q.mono (.news k hf)⟩
  tmps := fun q e => (C.tmps q e).mono (.news k hf)
  owns := fun q e => by
    rcases List.mem_append.mp e with e | e
    · have ha := hf q e
      refine ⟨ho q e, .inr (List.mem_map_of_mem e), fun q' => ?_, ?_, fun q' => ?_, fun n b e' q' => ?_⟩
      · obtain ⟨ob, q'⟩ := C.dom _ (C.sub _ q'); rw [ha] at q'; cases q'
      · cases q' : c.g.get? q.1 with
        | none => rfl
        | some ob => have := C.stays _ _ q'; rw [ha] at this; cases this
      · obtain ⟨ob, q'⟩ := C.dom _ (q' ▸ C.XL); rw [ha] at q'; cases q'
      · obtain ⟨ob, q'⟩ := C.dom _ (q' ▸ (C.XC n b e').1); rw [ha] at q'; cases q'
    · exact ⟨(C.owns q e).1.mono (.news k hf) fun o => k _ o, .inl (C.owns q e).2.1, (C.owns q e).2.2⟩
  nodup := by
    rw [List.map_append, List.nodup_append]
    refine ⟨hn, C.nodup, fun a ha b hb e => ?_⟩
    subst e
    obtain ⟨x, hx, rfl⟩ := List.mem_map.mp ha
    obtain ⟨y, hy, e⟩ := List.mem_map.mp hb
    obtain ⟨ob, q⟩ := C.dom _ (C.owns y hy).2.1
    rw [e, hf x hx] at q; cases q

theorem cellsFrom_split : ∀ (names : List (Str × NameKind)) (n : Nat) (acc : List (Str × Addr)), cellsFrom n names acc = cellsFrom n names [] ++ acc
  | [], n, acc => by simp [cellsFrom]
  | (x, k) :: r, n, acc => by
    unfold cellsFrom
    split
    · rw [cellsFrom_split r (n + 1) ((x, n) :: acc), cellsFrom_split r (n + 1) [(x, n)]]; simp
    · exact cellsFrom_split r n acc
theorem cellsFrom_has : ∀ (names : List (Str × NameKind)) (n : Nat) (x : Str), (x, NameKind.cell) ∈ names → ∃ a, (x, a) ∈ cellsFrom n names []
  | [], n, x, h => by simp at h
  | (y, k) :: r, n, x, h => by
    unfold cellsFrom
    split
    · rw [cellsFrom_split]
      rcases List.mem_cons.mp h with e | h
      · cases e; exact ⟨n, by simp⟩
      · obtain ⟨a, ha⟩ := cellsFrom_has r (n + 1) x h; exact ⟨a, by simp [ha]⟩
    · rename_i hk
      rcases List.mem_cons.mp h with e | h
      · cases e; simp at hk
      · exact cellsFrom_has r n x h
theorem lookup_append_some {α : Type} : ∀ {l r : List (Str × α)} {x : Str} {a : α}, (l ++ r).lookup x = some a → l.lookup x = some a ∨ (l.lookup x = none ∧ r.lookup x = some a)
  | [], r, x, a, h => .inr ⟨rfl, h⟩
  | (y, b) :: l, r, x, a, h => by
    rw [List.cons_append, List.lookup_cons] at h
    rw [List.lookup_cons]
    cases hb : x == y with
    | true => rw [hb] at h; exact .inl h
    | false => rw [hb] at h; exact lookup_append_some h
theorem lookup_none_notMem {α : Type} : ∀ {l : List (Str × α)} {x : Str}, l.lookup x = none → ∀ a, (x, a) ∉ l
  | (y, b) :: l, x, h, a, hm => by
    rw [List.lookup_cons] at h
    cases hb : x == y with
    | true => rw [hb] at h; cases h
    | false =>
      rw [hb] at h
      rcases List.mem_cons.mp hm with e | hm
      · cases e; simp at hb
      · exact lookup_none_notMem h a hm

/-- the frame of a comprehension -/
noncomputable abbrev compCx (c : Cx) (scope : Scope) (cl : List (Str × Addr)) (L : Addr) (g : Heap) (X : AP) : Cx :=
  ⟨c.prog, c.w, { scope := relabel scope c.env, locals := L, globals := c.env.globals, cells := cellsFrom (L + 1) scope.names cl, qual := c.env.qual, func := none, code := c.env.code, frame := c.env.frame, builtins := c.env.builtins }, g, X, fun n => scope.names.lookup n == some .cell⟩

structure CaptAt (c : Cx) (scope : Scope) (cl : List (Str × Addr)) (d : List (Str × LV)) (n : Str) (lv : LV) : Prop where
  h1 : d.lookup n = some lv
  h2 : (cellsFrom 0 scope.names []).lookup n = none
  h3 : (cl.lookup n).isSome = true
  h4 : (relabel scope c.env).names.lookup n ≠ some .local
  h5 : c.env.kindOf n ≠ some .local
noncomputable def Capt (c : Cx) (scope : Scope) (cl : List (Str × Addr)) (d : List (Str × LV)) (l : List (Str × LV)) : Prop := ∀ n lv, l.lookup n = some lv → CaptAt c scope cl d n lv
theorem Capt.get {scope : Scope} {cl : List (Str × Addr)} {l : List (Str × LV)} (h : Capt c scope cl d l) : ∀ n lv, l.lookup n = some lv → CaptAt c scope cl d n lv := h

theorem cellsFrom_fst : ∀ (names : List (Str × NameKind)) (n k : Nat), (cellsFrom n names []).map (·.1) = (cellsFrom k names []).map (·.1)
  | [], n, k => rfl
  | (x, kd) :: r, n, k => by
    unfold cellsFrom
    split
    · rw [cellsFrom_split r (n + 1), cellsFrom_split r (k + 1), List.map_append, List.map_append, cellsFrom_fst r (n + 1) (k + 1)]; rfl
    · exact cellsFrom_fst r n k
theorem lookup_none_iff {α : Type} {l : List (Str × α)} {x : Str} : l.lookup x = none ↔ x ∉ l.map (·.1) := by
  induction l with
  | nil => simp
  | cons y l ih =>
    rw [List.lookup_cons]
    cases hb : x == y.1 with
    | true => have := beq_iff_eq.mp hb; subst this; simp
    | false =>
      have hne : x ≠ y.1 := fun e => by subst e; simp at hb
      simp only [List.map_cons, List.mem_cons, not_or]
      exact ⟨fun h => ⟨hne, ih.mp h⟩, fun h => ih.mpr h.2⟩
theorem cellsFrom_none {names : List (Str × NameKind)} {n k : Nat} {x : Str} (h : (cellsFrom n names []).lookup x = none) : (cellsFrom k names []).lookup x = none := by
  rw [lookup_none_iff] at *
  rwa [cellsFrom_fst names k n]

/-- entering a comprehension -/
noncomputable def compX (X : AP) (I n : Addr) (h : Heap) : AP := fun b => X b ∨ b = I ∨ n ≤ b ∧ ∃ ob, h.get? b = some ob
theorem comp_enter {scope : Scope} {cl : List (Str × Addr)} {d₀ : List (Str × LV)} {I : Addr} {ob : Obj} {tsN : List (Value × LV)} (C : CfgI c (fun b => X b ∨ b = I) m cm d ((I, .raw ob) :: o) (tsN ++ ts) h') (hX : XD X h) (g : Gr h h') (hI : h.get? I = none)
    (hcl : ∀ n a, (n, a) ∈ cl → c.env.cells.lookup n = some a) (hcn : (cl.map (·.1)).Nodup) (cap : Capt c scope cl d d₀) (hcf : ∀ n, (n, NameKind.cell) ∈ scope.names → scope.names.lookup n = some .cell)
    (hcx : ∀ n a, c.env.cells.lookup n = some a → X a) :
    Cfg (compCx c scope cl (h'.objs.size + 1) h X) d₀ [(h'.objs.size, .lst []), (I, .raw ob)] tsN
      (pushCells ((h'.push { cls := .type "list", data := .seq ([] : List Value).toArray }).push { cls := .type "dict", data := .dict #[] }) scope.names) := by
  generalize hh1 : h'.push { cls := .type "list", data := .seq ([] : List Value).toArray } = h1
  have s1 : h1.objs.size = h'.objs.size + 1 := by rw [← hh1, Heap.size_push]
  generalize hh2 : h1.push { cls := .type "dict", data := .dict #[] } = h2
  have s2 : h2.objs.size = h'.objs.size + 2 := by rw [← hh2, Heap.size_push, s1]
  have g1 : Gr h' h1 := fun a ob e => hh1 ▸ Heap.get?_push_of_some _ e
  have g2 : Gr h1 h2 := fun a ob e => hh2 ▸ Heap.get?_push_of_some _ e
  have g3 : Gr h2 (pushCells h2 scope.names) := fun a ob e => pushCells_keeps _ _ _ _ e
  have gg : Gr h' (pushCells h2 scope.names) := fun a ob e => g3 _ _ (g2 _ _ (g1 _ _ e))
  have ok := cellsFrom_ok scope.names h2 (h'.objs.size + 2) [] ⟨fun _ _ hm => (nomatch hm), List.Pairwise.nil⟩ (Nat.le_of_eq s2.symm)
  rw [s2] at ok
  have hlt : ∀ b ob, h'.get? b = some ob → b < h'.objs.size := fun b ob e => Heap.lt_size e
  have hIlt : I < h'.objs.size := by obtain ⟨ob, e⟩ := (C.owns (I, .raw ob) (by simp)).1.there; exact hlt _ _ e
  have hh_lt : ∀ b ob, h.get? b = some ob → b < h'.objs.size := fun b ob e => hlt b ob (g b ob e)
  have fresh : ∀ b, h'.objs.size ≤ b → h.get? b = none := fun b hb => by
    cases e : h.get? b with
    | none => rfl
    | some ob => exact absurd (hh_lt b ob e) (Nat.not_lt.mpr hb)
  -- the cells
  have cl_lt : ∀ n a, (n, a) ∈ cl → a < h'.objs.size := fun n a hm => by
    obtain ⟨ob, e, _⟩ := C.cell n a (hcl n a hm); exact hlt _ _ e
  have look : ∀ n a, (cellsFrom (h'.objs.size + 1 + 1) scope.names cl).lookup n = some a →
      ((n, a) ∈ cellsFrom (h'.objs.size + 2) scope.names [] ∧ h'.objs.size + 2 ≤ a) ∨ ((cellsFrom (h'.objs.size + 2) scope.names []).lookup n = none ∧ (n, a) ∈ cl) := fun n a e => by
    rw [cellsFrom_split] at e
    rcases lookup_append_some e with e | ⟨e1, e2⟩
    · exact .inl ⟨mem_of_lookup e, (ok.empty n a (mem_of_lookup e)).2⟩
    · exact .inr ⟨e1, mem_of_lookup e2⟩
  let cm' : Str → Option Value := fun n => if ((cellsFrom (h'.objs.size + 2) scope.names []).lookup n).isSome then none else cm n
  refine ⟨compX X I h'.objs.size (pushCells h2 scope.names), fun _ => none, cm', ?_⟩
  have fit : Fits h' (fun b => X b ∨ b = I) (pushCells h2 scope.names) (compX X I h'.objs.size (pushCells h2 scope.names)) := fun b ob e n => by
    refine ⟨gg _ _ e, fun q => ?_⟩
    rcases q with q | q | q
    · exact n (.inl q)
    · exact n (.inr q)
    · exact absurd (hlt _ _ e) (Nat.not_lt.mpr q.1)
  have hL : (pushCells h2 scope.names).Ns (h'.objs.size + 1) fun _ => none := by
    have := Heap.Ns.new h1 (.type "dict")
    rw [s1, hh2] at this
    exact this.keeps g3
  have hD : (pushCells h2 scope.names).get? h'.objs.size = some (listO [] 0) := g3 _ _ (g2 _ _ (hh1 ▸ Heap.get?_push_size _ rfl))
  exact {
    ns := hL
    cell := fun n a e => by
      rcases look n a e with ⟨h1, h2⟩ | ⟨h1, h2⟩
      · have hs : ((cellsFrom (h'.objs.size + 2) scope.names []).lookup n).isSome = true := by
          cases q : (cellsFrom (h'.objs.size + 2) scope.names []).lookup n with
          | none => exact absurd h1 (lookup_none_notMem q a)
          | some _ => rfl
        simp only [cm', hs, if_true]
        exact (ok.empty n a h1).1
      · simp only [cm', h1, Option.isSome_none, Bool.false_eq_true, if_false]
        exact (C.cell n a (hcl n a h2)).keeps gg
    stays := fun a ob e => gg _ _ (g _ _ e)
    dom := fun b e => by
      rcases e with e | e | e
      · obtain ⟨ob, q⟩ := hX b e; exact ⟨ob, gg _ _ (g _ _ q)⟩
      · subst e; obtain ⟨ob, q⟩ := (C.owns (b, .raw ob) (by simp)).1.there; exact ⟨ob, gg _ _ q⟩
      · exact e.2
    sub := fun b e => .inl e
    gL := fresh _ (Nat.le_succ _)
    XL := by obtain ⟨ob, _, _, e, _⟩ := hL; exact .inr (.inr ⟨Nat.le_succ _, ob, e⟩)
    XC := fun n a e => by
      rcases look n a e with ⟨h1, h2⟩ | ⟨h1, h2⟩
      · obtain ⟨ob, q, _⟩ := (ok.empty n a h1).1
        exact ⟨.inr (.inr ⟨by lia  , ob, q⟩), by show a ≠ h'.objs.size + 1; exact Nat.ne_of_gt (by lia  )⟩
      · have := cl_lt n a h2
        exact ⟨.inl (hcx n a (hcl n a h2)), by show a ≠ h'.objs.size + 1; exact Nat.ne_of_lt (Nat.lt_succ_of_lt this)⟩
    gC := fun n a e ho => by
      rcases look n a e with ⟨h1, h2⟩ | ⟨h1, h2⟩
      · exact fresh _ (by lia  )
      · have hl : scope.names.lookup n = some .cell := beq_iff_eq.mp ho
        obtain ⟨b, hb⟩ := cellsFrom_has scope.names (h'.objs.size + 2) n (mem_of_lookup hl)
        exact absurd hb (lookup_none_notMem h1 b)
    CC := by
      show (cellsFrom (h'.objs.size + 1 + 1) scope.names cl).Pairwise _
      rw [cellsFrom_split, List.pairwise_append]
      refine ⟨ok.apart, ?_, fun x hx y hy e => ?_⟩
      · have key : ∀ l : List (Str × Addr), (∀ n a, (n, a) ∈ l → c.env.cells.lookup n = some a) → (l.map (·.1)).Nodup → l.Pairwise fun x y => x.2 ≠ y.2 := by
          intro l
          induction l with
          | nil => intros; exact .nil
          | cons x l ih =>
            intro h1 h2
            simp only [List.map_cons, List.nodup_cons] at h2
            refine List.pairwise_cons.mpr ⟨fun y hy e => h2.1 ?_, ih (fun n a hm => h1 n a (List.mem_cons_of_mem _ hm)) h2.2⟩
            have e1 := mem_of_lookup (h1 x.1 x.2 List.mem_cons_self)
            have e2 := mem_of_lookup (h1 y.1 y.2 (List.mem_cons_of_mem _ hy))
            rw [e] at e1
            rw [name_of_addr C.CC e1 e2]
            exact List.mem_map_of_mem hy
        exact key cl hcl hcn
      · have h1 := (ok.empty x.1 x.2 hx).2
        have h2 := cl_lt y.1 y.2 hy
        rw [← e] at h2
        exact absurd h2 (Nat.not_lt.mpr (Nat.le_trans (Nat.le_add_right _ 2) h1))
    vars := fun n lv e => by
      obtain ⟨h1, h2, h3, h4, h5⟩ := cap.get n lv e
      obtain ⟨v, e1, e2⟩ := C.vars n lv h1
      refine ⟨v, ?_, e2.mono fit⟩
      obtain ⟨a, ha⟩ := Option.isSome_iff_exists.mp h3
      have e3 : (c.env.cells.lookup n).isSome = true := by rw [hcl n a (mem_of_lookup ha)]; rfl
      simp only [slotV, h5, if_false, e3, if_true] at e1
      have n2 := cellsFrom_none (k := h'.objs.size + 2) h2
      have e4 : ((cellsFrom (h'.objs.size + 1 + 1) scope.names cl).lookup n).isSome = true := by
        cases q : (cellsFrom (h'.objs.size + 1 + 1) scope.names cl).lookup n with
        | some _ => rfl
        | none =>
          rw [lookup_none_iff, cellsFrom_split, List.map_append, List.mem_append, not_or] at q
          exact absurd (List.mem_map_of_mem (mem_of_lookup ha)) q.2
      have e5 : ¬ (compCx c scope cl (h'.objs.size + 1) h X).env.kindOf n = some .local := h4
      unfold slotV
      rw [if_neg e5, if_pos e4]
      simp only [cm', n2, Option.isSome_none, Bool.false_eq_true, if_false]
      exact e1
    tmps := fun q hq => (C.tmps q (List.mem_append_left _ hq)).mono fit
    owns := fun q hq => by
      rcases List.mem_cons.mp hq with rfl | hq
      · refine ⟨⟨[], 0, hD, .nil⟩, .inr (.inr ⟨Nat.le_refl _, _, hD⟩), fun q => ?_, fresh _ (Nat.le_refl _), by show h'.objs.size ≠ h'.objs.size + 1; lia  , fun n a e q => ?_⟩
        · obtain ⟨ob, e⟩ := hX _ q; rw [fresh _ (Nat.le_refl _)] at e; cases e
        · subst q
          rcases look n _ e with ⟨_, h2⟩ | ⟨_, h2⟩
          · exact absurd h2 (by show ¬ h'.objs.size + 2 ≤ h'.objs.size; lia  )
          · exact absurd (cl_lt n _ h2) (Nat.lt_irrefl _)
      · have := List.mem_singleton.mp hq
        subst this
        refine ⟨(C.owns (I, .raw ob) (by simp)).1.mono fit fun ob e => gg _ _ e, .inr (.inl rfl), fun q => ?_, hI, by show I ≠ h'.objs.size + 1; exact Nat.ne_of_lt (Nat.lt_succ_of_lt hIlt), fun n a e q => ?_⟩
        · obtain ⟨ob, e⟩ := hX _ q; rw [hI] at e; cases e
        · subst q
          rcases look n _ e with ⟨_, h2⟩ | ⟨_, h2⟩
          · exact absurd hIlt (Nat.not_lt.mpr (Nat.le_trans (Nat.le_add_right _ 2) h2))
          · exact (C.owns (a, .raw ob) (by simp)).2.2.2.2.2 n a (hcl n a h2) rfl
    nodup := by simp; exact Nat.ne_of_gt hIlt }
end
end Mine
end

section
open PySem PySem.W PyProof.Rows PySem.Calls
set_option linter.unusedVariables false
namespace Mine

section
variable {prog : Program} {w : World} {A : Around}
theorem compLoop_tests {R : Result → Shared → Prop} {s : Shared} {elt target iter : Expr} {ifs : List Expr} {scope : Scope} {pos : Pos} {it acc : Value} {env : Env} (I : Nat → Shared → Prop)
    (turn : ∀ n s, I n s → wpAny (model prog w) A (pyNext it) (fun r s₁ => match r with
      | none => R (.ok .next) s₁
      | some v => wpAny (model prog w) A (letOwnedTupleGo target it v) (fun _ s₁' => wpAny (model prog w) A (assign target env v) (fun _ s₂ =>
          wpAny (model prog w) A (forIn ifs true fun c r => if r = true then do let ok ← isTrue c env (eval c env); pure (ForInStep.yield ok) else pure (ForInStep.yield r)) (fun ok s₃ =>
            if ok = true then wpAny (model prog w) A (eval elt env) (fun x s₄ =>
              wpAny (model prog w) A (call (.builtin "list.append") [acc, x]) (fun _ s₅ => ∃ m, m < n ∧ I m s₅) (notedBy (model prog w) A env fun e s' => R (.error e) s') s₄) (notedBy (model prog w) A env fun e s' => R (.error e) s') s₃
            else ∃ m, m < n ∧ I m s₃) (notedBy (model prog w) A env fun e s' => R (.error e) s') s₂) (notedBy (model prog w) A env fun e s' => R (.error e) s') s₁') (notedBy (model prog w) A env fun e s' => R (.error e) s') s₁) (notedBy (model prog w) A env fun e s' => R (.error e) s') s)
    (n : Nat) (h : I n s) :
    codeAny (model prog w) A (.compLoop (.ListComp elt [⟨target, iter, ifs, 0⟩] scope pos) 0 it acc env) R s := by
  refine codeAny_loop rfl I (fun n s hI => ?_) n h
  show wpAny _ A ((compTurn (.ListComp elt [⟨target, iter, ifs, 0⟩] scope pos) 0 it acc env).onRaise (fun x => do noteFrame x env; theTreesLotGoes x)) _ _ s
  refine wpAny_noted ?_
  rw [compTurn_list]
  refine wpAny_bind (wpAny_standAt (wpAny_bind (wpAny_mono (turn n s hI) (fun r s₁ h₁ => ?_) fun _ _ h' => h')))
  cases r with
  | none => exact wpAny_pure h₁
  | some v =>
    refine wpAny_bind (wpAny_mono h₁ (fun _ s₁' h₁' => ?_) fun _ _ h' => h')
    refine wpAny_bind (wpAny_mono h₁' (fun _ s₂ h₂ => wpAny_bind (wpAny_mono h₂ (fun ok s₃ h₃ => ?_) fun _ _ h' => h')) fun _ _ h' => h')
    cases ok with
    | false => exact wpAny_pure ⟨rfl, h₃⟩
    | true =>
      exact wpAny_bind (wpAny_bind (wpAny_mono h₃ (fun x s₄ h₄ => wpAny_bind (wpAny_mono h₄ (fun _ s₅ h₅ => wpAny_pure (wpAny_pure ⟨rfl, h₅⟩)) fun _ _ h' => h')) fun _ _ h' => h'))

theorem wp_newCompEnv {M : Model} {E : Value → Shared → Prop} {s : Shared} {scope : Scope} {globals : Addr} {cl : List (Str × Addr)} {qual : Str} {outer : Env} {Q : Env → Shared → Prop}
    (hQ : Q { scope, locals := s.heap.objs.size, globals, cells := cellsFrom (s.heap.objs.size + 1) scope.names cl, qual, func := none, code := outer.code, frame := outer.frame, builtins := outer.builtins } { s with heap := pushCells (s.heap.push { cls := .type "dict", data := .dict #[] }) scope.names }) :
    wpAny M A (newFunctionEnv scope globals cl [] qual none .none (some outer)) Q E s := by
  simp only [newFunctionEnv, Option.isSome_some, if_true]
  refine wpAny_bind (wpAny_alloc ?_)
  refine wpAny_bind (wpAny_layCells _ (fun name kind cells => by cases hkc : kind == NameKind.cell <;> simp) _ _ _ _ ?_)
  rw [show ({ s with heap := s.heap.push { cls := .type "dict", data := .dict #[] } } : Shared).heap.objs.size = s.heap.objs.size + 1 from Heap.size_push ..]
  refine wpAny_bind ?_
  rw [List.forIn_nil]
  exact wpAny_pure (wpAny_pure hQ)
end

/-- the target of a comprehension's turn: the iterator lets a tuple go, then the names are stored -/
noncomputable def CTgt (c : Cx) (A : Around) (s : Shared) (t : Expr) (lv : LV) (d d' : List (Str × LV)) : Prop :=
  ∀ (I : Addr) (ob : Obj) (o : List (Addr × OV)) (ts : List (Value × LV)) (v : Value) (h : Heap) (tk : Nat) (Q : Unit → Shared → Prop) (E : Value → Shared → Prop), ob.cls = .type "list_iterator" ∨ (∀ it v, letOwnedTupleGo t it v = pure ()) →
    Cfg c d ((I, .raw ob) :: o) ((v, lv) :: ts) h → (∀ h' tk', Cfg c d' ((I, .raw ob) :: o) ts h' → Q () (St s h' tk')) →
    wpAny (model c.prog c.w) A (letOwnedTupleGo t (.ref I) v) (fun _ s' => wpAny (model c.prog c.w) A (assign t c.env v) Q E s') E (St s h tk)

noncomputable def ifsTree (ifs : List Expr) (env : Env) : Sem Bool := forIn ifs true fun c r => if r = true then do let ok ← isTrue c env (eval c env); pure (ForInStep.yield ok) else pure (ForInStep.yield r)

section
variable {c : Cx} {A : Around} {s : Shared} {d : List (Str × LV)} {o : List (Addr × OV)} {ts : List (Value × LV)} {Q : Flow → Shared → Prop} {E : Value → Shared → Prop}

/-- the loop of a comprehension, in its own frame c -/
theorem comp_loop {elt target iter : Expr} {ifs : List Expr} {scope : Scope} {pos : Pos} {I D : Addr} {ob : Obj} {items : List LV} {tsN : List (Value × LV)} {fp : List Addr} {P : Nat → Value → Prop} {St0 : Nat → Heap → Prop} {R : Result → Shared → Prop} {h : Heap} {tk : Nat}
    (up : LV → List (Str × LV) → List (Str × LV)) (d₀ : List (Str × LV)) (Acc : List LV → List (Addr × OV) → Prop) (C : Cfg c d₀ ((I, .raw ob) :: o) tsN h) (h0 : Acc [] o)
    (W : Walks c.prog c.w A I fp [I] items.length P St0) (hst : St0 0 h) (hI : ∀ i h, St0 i h → ∃ ob, h.get? I = some ob ∧ (ob.cls = .type "list_iterator" ∨ (∀ it v, letOwnedTupleGo target it v = pure ())))
    (hfp : ∀ b ∈ fp, b = I ∨ ∃ ob', (Value.ref b, LV.pin ob') ∈ tsN) (hP : ∀ i v, P i v → i < items.length → ∃ lv, items[i]? = some lv ∧ ((v, lv) ∈ tsN ∨ ∀ h X, LVden h X lv v))
    (tgt : ∀ y, y ∈ items → CTgt c A s target y d₀ (up y d₀))
    (step : ∀ done y rest' o' I ob h tk (Q : Unit → Shared → Prop) (E : Value → Shared → Prop), items = done ++ y :: rest' → Acc done o' → Cfg c (up y d₀) ((I, .raw ob) :: o') tsN h →
      (∀ h' tk' d' o3, (∀ n lv, d₀.lookup n = some lv → d'.lookup n = some lv) → Acc (done ++ [y]) o3 → Cfg c d' ((I, .raw ob) :: o3) tsN h' → Q () (St s h' tk')) →
      wpAny (model c.prog c.w) A (ifsTree ifs c.env) (fun ok s₃ => if ok = true then wpAny (model c.prog c.w) A (eval elt c.env) (fun x s₄ => wpAny (model c.prog c.w) A (call (.builtin "list.append") [.ref D, x]) (fun _ s₅ => Q () s₅) E s₄) E s₃ else Q () s₃) E (St s h tk))
    (fin : ∀ d' o' h' tk', Acc items o' → Cfg c d' o' tsN h' → R (.ok .next) (St s h' tk')) :
    codeAny (model c.prog c.w) A (.compLoop (.ListComp elt [⟨target, iter, ifs, 0⟩] scope pos) 0 (.ref I) (.ref D) c.env) R (St s h tk) := by
  refine compLoop_tests (LoopI c s (fun done d' o' => (∀ n lv, d₀.lookup n = some lv → d'.lookup n = some lv) ∧ Acc done o') St0 tsN items I) ?_ items.length (.mk h tk d₀ o 0 ob (Nat.zero_le _) rfl ⟨fun _ _ e => e, h0⟩ hst C)
  rintro n s' ⟨h', tk', d', o', i, ob', hi, rfl, hdJ, hst', C'⟩
  by_cases hlt : i < items.length
  · refine W.item i _ _ _ hlt hst' fun v h3 t3 hPv hst3 hk3 => ?_
    obtain ⟨lv, hlv, hden⟩ := hP i v hPv hlt
    obtain ⟨ob3, hob3, hcls⟩ := hI _ _ hst3
    have C3 := Cfg.sub_d (C'.upRaw hk3 hob3) hdJ.1
    refine tgt lv (List.mem_of_getElem? hlv) I ob3 o' tsN v h3 t3 _ _ hcls (C3.item hden) fun h5 t5 C5 => ?_
    refine step (items.take i) lv _ o' I ob3 h5 t5 (fun _ s5 => ∃ m, m < items.length - i ∧ LoopI c s (fun done d' o' => (∀ n lv, d₀.lookup n = some lv → d'.lookup n = some lv) ∧ Acc done o') St0 tsN items I m s5) _ (items_split hlv) hdJ.2 C5 fun h6 t6 d6 o6 hd6 j6 C6 => ?_
    exact ⟨items.length - (i + 1), by lia, .mk h6 t6 d6 o6 (i + 1) ob3 hlt rfl ⟨hd6, items_take hlv ▸ j6⟩ (W.frame _ _ _ hst3 (Cfg.frame hfp (fun _ h => h) C3 hob3 C6)) C6⟩
  · obtain rfl : i = items.length := by lia
    refine W.done _ _ _ hst' fun h3 t3 hk3 => ?_
    have hJ := hdJ.2
    rw [List.take_length] at hJ
    exact fin d' o' h3 t3 hJ (C'.dropRaw hk3)
end
end Mine
end

section
open PySem PySem.W PyProof.Rows PySem.Calls
set_option linter.unusedVariables false
namespace Mine

section
variable {c : Cx} {A : Around} {s : Shared} {d : List (Str × LV)} {o : List (Addr × OV)} {ts : List (Value × LV)}

structure CompOk (c : Cx) (scope : Scope) (cl : List (Str × Addr)) (iter : Expr) (d d₀ : List (Str × LV)) : Prop where
  clos : closureFor scope c.env = pure cl
  kind : scope.kind = .function
  names : ∀ x ∈ scope.names, x.2 = .local → scope.names.lookup x.1 = some .local
  cl' : ∀ n a, (n, a) ∈ cl → c.env.cells.lookup n = some a
  nd : (cl.map (·.1)).Nodup
  cap : Capt c scope cl d d₀
  cf : ∀ n, (n, NameKind.cell) ∈ scope.names → scope.names.lookup n = some .cell
  folded : ∀ x, foldedSetIterable iter c.env x = pure x

theorem comp_wrap {use : Option (Value → Sem Unit)} {Qv : Value → Shared → Prop} {E : Value → Shared → Prop} {elt target iter : Expr} {ifs : List Expr} {scope : Scope} {cpos pos : Pos} {cl : List (Str × Addr)} {l0 : LV} {items : List LV} {K : Obj → Prop} {d₀ : List (Str × LV)} {h : Heap} {tk : Nat}
    (up : LV → List (Str × LV) → List (Str × LV)) (Acc : Addr → List LV → List (Addr × OV) → Prop)
    (ok : CompOk c scope cl iter d d₀) (C : Cfg c d o ts h) (H : EvP c A s d o iter l0) (hit : IterTo c A s d o l0 items K)
    (hK : ∀ ob, K ob → ob.cls = .type "list_iterator" ∨ (∀ it v, letOwnedTupleGo target it v = pure ()))
    (acc0 : ∀ D, Acc D [] [(D, .lst [])])
    (tgt : ∀ L' g X y, y ∈ items → CTgt (compCx c scope cl L' g X) A s target y d₀ (up y d₀))
    (step : ∀ X m cm v h1 L' D tsN, CfgI c X m cm d o ((v, l0) :: ts) h1 → ∀ done y rest' o' I ob h tk (Q : Unit → Shared → Prop) (E : Value → Shared → Prop), items = done ++ y :: rest' → Acc D done o' → Cfg (compCx c scope cl L' h1 X) (up y d₀) ((I, .raw ob) :: o') tsN h →
      (∀ h' tk' d' o3, (∀ n lv, d₀.lookup n = some lv → d'.lookup n = some lv) → Acc D (done ++ [y]) o3 → Cfg (compCx c scope cl L' h1 X) d' ((I, .raw ob) :: o3) tsN h' → Q () (St s h' tk')) →
      wpAny (model c.prog c.w) A (ifsTree ifs (compCx c scope cl L' h1 X).env) (fun ok s₃ => if ok = true then wpAny (model c.prog c.w) A (eval elt (compCx c scope cl L' h1 X).env) (fun x s₄ => wpAny (model c.prog c.w) A (call (.builtin "list.append") [.ref D, x]) (fun _ s₅ => Q () s₅) E s₄) E s₃ else Q () s₃) E (St s h tk))
    (fin : ∀ X m cm v h1 L' D d' o' tsN h2 t2, CfgI c X m cm d o ((v, l0) :: ts) h1 → Acc D items o' → Cfg (compCx c scope cl L' h1 X) d' o' tsN h2 → compPost (model c.prog c.w) A E use Qv (.ref D) L' (.ok .next) (St s h2 t2)) :
    wpAny (model c.prog c.w) A (comprehension (.ListComp elt [⟨target, iter, ifs, 0⟩] scope pos) scope c.env cpos (newList []) false (eval iter c.env) use) Qv E (St s h tk) := by
  refine wpAny_comprehension_free (g := ⟨target, iter, ifs, 0⟩) (gs := []) rfl ok.folded ok.clos ok.kind ok.names (H _ _ _ _ _ C fun v h1 t1 ⟨X, m, cm, C1⟩ => ?_)
  refine hit X m cm _ _ _ _ _ _ C1 fun I ob tsN h2 t2 fp P St0 C2 g hIn W hst hI hfp hP => ?_
  refine wpAny_newObj_type (wp_newCompEnv ?_)
  have C3 := comp_enter C2 C1.dom g hIn ok.cl' ok.nd ok.cap ok.cf fun n a e => (C1.XC n a e).1
  show codeAny _ _ _ _ (St s (pushCells ((h2.push { cls := .type "list", data := .seq ([] : List Value).toArray }).push { cls := .type "dict", data := .dict #[] }) scope.names) t2)
  have e1 : (h2.push { cls := .type "list", data := .seq ([] : List Value).toArray }).objs.size = h2.objs.size + 1 := Heap.size_push ..
  have hst3 : St0 0 (pushCells ((h2.push { cls := .type "list", data := .seq ([] : List Value).toArray }).push { cls := .type "dict", data := .dict #[] }) scope.names) :=
    W.frame _ _ _ hst fun b _ ob e => pushCells_keeps _ _ _ _ (Heap.get?_push_of_some _ (Heap.get?_push_of_some _ e))
  have C4 : Cfg (compCx c scope cl (h2.objs.size + 1) h1 X) d₀ [(I, .raw ob), (h2.objs.size, .lst [])] (tsN ++ ts)
      (pushCells ((h2.push { cls := .type "list", data := .seq ([] : List Value).toArray }).push { cls := .type "dict", data := .dict #[] }) scope.names) := by
    have C3' := comp_enter (tsN := tsN ++ ts) (ts := []) (C2.sub_ts fun q hq => by simpa using hq) C1.dom g hIn ok.cl' ok.nd ok.cap ok.cf fun n a e => (C1.XC n a e).1
    exact C3'.perm_o (List.Perm.swap _ _ _)
  have loop : codeAny (model c.prog c.w) A (.compLoop (.ListComp elt [⟨target, iter, ifs, 0⟩] scope pos) 0 (.ref I) (.ref h2.objs.size) (compCx c scope cl (h2.objs.size + 1) h1 X).env)
      (compPost (model c.prog c.w) A E use Qv (.ref h2.objs.size) (h2.objs.size + 1)) (St s (pushCells ((h2.push { cls := .type "list", data := .seq ([] : List Value).toArray }).push { cls := .type "dict", data := .dict #[] }) scope.names) t2) := by
    refine comp_loop (c := compCx c scope cl (h2.objs.size + 1) h1 X) up d₀ (Acc h2.objs.size) C4 (acc0 _) W hst3 (fun i h e => ?_) (fun b hb => ?_) (fun i v hv hi => ?_) (fun y hy => tgt _ _ _ y hy) (fun done y rest' o' I ob h tk Q E => step X m cm v h1 _ _ _ C1 done y rest' o' I ob h tk Q E) fun d' o' h' tk' hacc C' => fin X m cm v h1 _ _ d' o' _ h' tk' C1 hacc C'
    · obtain ⟨ob, e1, e2⟩ := hI i h e; exact ⟨ob, e1, hK _ e2⟩
    · rcases hfp b hb with h | ⟨ob, h⟩
      · exact .inl h
      · exact .inr ⟨ob, List.mem_append_left _ h⟩
    · obtain ⟨lv, h1, h2⟩ := hP i v hv hi
      exact ⟨lv, h1, h2.elim (fun h => .inl (List.mem_append_left _ h)) .inr⟩
  have henv : ∀ k, ({ scope := relabel scope c.env, locals := (h2.push { cls := .type "list", data := .seq ([] : List Value).toArray }).objs.size, globals := c.env.globals, cells := cellsFrom ((h2.push { cls := .type "list", data := .seq ([] : List Value).toArray }).objs.size + 1) scope.names cl, qual := c.env.qual, func := none, code := c.env.code, frame := c.env.frame, builtins := c.env.builtins } : Env) = (compCx c scope cl (h2.objs.size + 1) h1 k).env := by
    intro k; rw [e1]
  have goal := codeAny_compStart_list loop (W.self 0 _ _ _ hst3 loop)
  have e3 := henv X
  rw [← e3] at goal
  rw [e1] at *
  exact goal
end
end Mine
end

section
open PySem PySem.W PyProof.Rows PySem.Calls
set_option linter.unusedVariables false
namespace Mine

section
variable {c : Cx} {A : Around} {s : Shared} {d : List (Str × LV)} {o : List (Addr × OV)} {ts : List (Value × LV)}

/-- leaving a comprehension that has made one list -/
theorem comp_leave {scope : Scope} {cl : List (Str × Addr)} {X : AP} {m cm : Str → Option Value} {v : Value} {l0 : LV} {h1 h2 : Heap} {L' D : Addr} {d' : List (Str × LV)} {ys : List PyData} {tsN : List (Value × LV)}
    (C1 : CfgI c X m cm d o ((v, l0) :: ts) h1) (C2 : Cfg (compCx c scope cl L' h1 X) d' [(D, .lst ys)] tsN h2) :
    ∃ ob, Cfg c d ((L', .raw ob) :: (D, .lst ys) :: o) ((.ref D, .at D) :: ts) h2 ∧ ∃ es ep, ob.data = .dict es ep ∧ StrKeys es := by
  obtain ⟨X', m', cm', C2⟩ := C2
  obtain ⟨ob, es, ep, hL, hdat, hk, _⟩ := C2.ns
  have OD := C2.owns (D, .lst ys) (by simp)
  refine ⟨ob, ?_, es, ep, hdat, hk⟩
  have key := (C1.sub_ts (ts' := ts) fun q hq => List.mem_cons_of_mem _ hq).news (os := [(L', .raw ob), (D, .lst ys)]) (h' := h2) C2.stays
    (fun q hq => by
      simp only [List.mem_cons, List.not_mem_nil, or_false] at hq
      rcases hq with rfl | rfl
      · exact C2.gL
      · exact OD.2.2.2.1)
    (by simp; exact fun e => OD.2.2.2.2.1 e.symm)
    (fun q hq => by
      simp only [List.mem_cons, List.not_mem_nil, or_false] at hq
      rcases hq with rfl | rfl
      · exact hL
      · obtain ⟨vs, n, e1, e2⟩ := OD.1
        refine ⟨vs, n, e1, e2.mono fun b ob e n' => ⟨e, fun q => n' ?_⟩⟩
        simp only [List.map_cons, List.map_nil, List.mem_cons, List.not_mem_nil, or_false] at q
        rcases q with q | q | q
        · exact C2.sub _ q
        · subst q; exact C2.XL
        · subst q; exact OD.2.1)
  exact ⟨_, m, cm, key.push rfl⟩

theorem ifs_nil {M : Model} {env : Env} {s : Shared} {Q : Bool → Shared → Prop} {E : Value → Shared → Prop} (h : Q true s) : wpAny M A (ifsTree [] env) Q E s := by
  unfold ifsTree; rw [List.forIn_nil]; exact wpAny_pure h
theorem ifs_one {M : Model} {env : Env} {t : Expr} {s : Shared} {Q : Bool → Shared → Prop} {E : Value → Shared → Prop} (h : wpAny M A (isTrue t env (eval t env)) Q E s) : wpAny M A (ifsTree [t] env) Q E s := by
  unfold ifsTree
  simp only [List.forIn_cons, List.forIn_nil, if_true]
  exact wpAny_bind (wpAny_bind (wpAny_mono h (fun b s' hb => wpAny_pure (wpAny_pure hb)) fun _ _ x => x))

/-- the tests of a comprehension -/
noncomputable def IfsP (c : Cx) (A : Around) (s : Shared) (d : List (Str × LV)) (o : List (Addr × OV)) : List Expr → Bool → Prop
  | [], b => b = true
  | [t], b => TsP c A s d o t b
  | _, _ => False
theorem IfsP.run {ifs : List Expr} {b : Bool} (H : IfsP c A s d o ifs b) {h : Heap} {tk : Nat} {Q : Bool → Shared → Prop} {E : Value → Shared → Prop} (C : Cfg c d o ts h) (k : ∀ h' tk', Cfg c d o ts h' → Q b (St s h' tk')) :
    wpAny (model c.prog c.w) A (ifsTree ifs c.env) Q E (St s h tk) := by
  match ifs, H with
  | [], H => have H : b = true := H; subst H; exact ifs_nil (k _ _ C)
  | [t], H => exact ifs_one (H _ _ _ _ _ C k)

/-- one turn of a comprehension whose elements are data -/
theorem step_pure {ifs : List Expr} {elt : Expr} {D I : Addr} {ob : Obj} {ys : List PyData} {b : Bool} {y : PyData} {h : Heap} {tk : Nat} {Q : Unit → Shared → Prop} {E : Value → Shared → Prop} {tsN : List (Value × LV)}
    (C : Cfg c d [(I, .raw ob), (D, .lst ys)] tsN h) (Hi : ∀ o, IfsP c A s d o ifs b) (He : b = true → ∀ o, EvP c A s d o elt (.p y)) (hz : ys.length ≤ sizeLine)
    (k : ∀ h' tk', Cfg c d [(I, .raw ob), (D, .lst (if b then ys ++ [y] else ys))] tsN h' → Q () (St s h' tk')) :
    wpAny (model c.prog c.w) A (ifsTree ifs c.env) (fun ok s₃ => if ok = true then wpAny (model c.prog c.w) A (eval elt c.env) (fun x s₄ => wpAny (model c.prog c.w) A (call (.builtin "list.append") [.ref D, x]) (fun _ s₅ => Q () s₅) E s₄) E s₃ else Q () s₃) E (St s h tk) := by
  refine (Hi _).run C fun h1 t1 C1 => ?_
  cases b with
  | false => simpa using k h1 t1 (by simpa using C1)
  | true =>
    rw [if_pos rfl]
    refine He rfl _ _ _ _ _ _ C1 fun x h2 t2 C2 => ?_
    obtain ⟨X, m, cm, C2⟩ := C2
    obtain ⟨vs, n, e2, D2⟩ := (C2.owns (D, .lst ys) (by simp)).1
    have hl := D2.length
    refine wpAny_list_append_plain (items := vs.toArray) ⟨n, e2⟩ (fun h3 hp hs3 => ?_) (by simp; lia  )
    have C3 : CfgI c X m cm d [(I, .raw ob), (D, .lst (ys ++ [y]))] _ h3 := C2.up (.tail .head) hs3 (by
      obtain ⟨n3, e3⟩ := hp
      refine ⟨vs ++ [x], n3, by simpa [listO] using e3, ?_⟩
      exact (D2.append (.one (C2.tmps (x, .p y) (by simp)))).mono (.but hs3 (C2.owns (D, .lst ys) (by simp)).2.1))
    exact k h3 t2 ⟨X, m, cm, C3.sub_ts fun q hq => List.mem_cons_of_mem _ hq⟩

/-- a comprehension over data whose elements are data -/
structure CompP (c : Cx) (A : Around) (s : Shared) (d : List (Str × LV)) (elt target : Expr) (ifs : List Expr) (scope : Scope) (cl : List (Str × Addr)) (d₀ : List (Str × LV)) (up : LV → List (Str × LV) → List (Str × LV)) (items : List LV) (p : LV → Bool) (f : LV → PyData) : Prop where
  tgt : ∀ L' g X y, y ∈ items → CTgt (compCx c scope cl L' g X) A s target y d₀ (up y d₀)
  tst : ∀ L' g X y o, Gr c.g g → y ∈ items → IfsP (compCx c scope cl L' g X) A s (up y d₀) o ifs (p y)
  elt : ∀ L' g X y o, Gr c.g g → y ∈ items → p y = true → EvP (compCx c scope cl L' g X) A s (up y d₀) o elt (.p (f y))
  keep : ∀ y n lv, d₀.lookup n = some lv → (up y d₀).lookup n = some lv
  size : items.length ≤ sizeLine

theorem filter_map_snoc {items done : List LV} {y : LV} {p : LV → Bool} {f : LV → PyData} : ((done ++ [y]).filter p).map f = if p y then (done.filter p).map f ++ [f y] else (done.filter p).map f := by
  rw [List.filter_append, List.map_append]
  cases h : p y <;> simp [h]

theorem comp_pure {use : Option (Value → Sem Unit)} {Qv : Value → Shared → Prop} {E : Value → Shared → Prop} {elt target iter : Expr} {ifs : List Expr} {scope : Scope} {cpos pos : Pos} {cl : List (Str × Addr)} {l0 : LV} {items : List LV} {K : Obj → Prop} {d₀ : List (Str × LV)} {h : Heap} {tk : Nat}
    {up : LV → List (Str × LV) → List (Str × LV)} {p : LV → Bool} {f : LV → PyData}
    (ok : CompOk c scope cl iter d d₀) (C : Cfg c d o ts h) (H : EvP c A s d o iter l0) (hit : IterTo c A s d o l0 items K)
    (hK : ∀ ob, K ob → ob.cls = .type "list_iterator" ∨ (∀ it v, letOwnedTupleGo target it v = pure ()))
    (P : CompP c A s d elt target ifs scope cl d₀ up items p f)
    (fin : ∀ L' D ob h2 t2, (∃ es ep, ob.data = .dict es ep ∧ StrKeys es) → Cfg c d ((L', .raw ob) :: (D, .lst ((items.filter p).map f)) :: o) ((.ref D, .at D) :: ts) h2 → compPost (model c.prog c.w) A E use Qv (.ref D) L' (.ok .next) (St s h2 t2)) :
    wpAny (model c.prog c.w) A (comprehension (.ListComp elt [⟨target, iter, ifs, 0⟩] scope pos) scope c.env cpos (newList []) false (eval iter c.env) use) Qv E (St s h tk) := by
  refine comp_wrap up (fun D done o' => o' = [(D, .lst ((done.filter p).map f))]) ok C H hit hK (fun D => rfl) P.tgt ?_ ?_
  · rintro X m cm v h1 L' D tsN C1 done y rest' o' I ob h tk Q E hsp rfl C2 k
    have hy : y ∈ items := by rw [hsp]; simp
    refine step_pure (y := f y) (b := p y) C2 (fun o => P.tst _ _ _ _ _ C1.stays hy) (fun hp o => P.elt _ _ _ _ _ C1.stays hy hp) ?_ fun h' tk' C3 => k h' tk' _ _ (P.keep y) ?_ C3
    · have h1 := P.size
      have h2 : ((done.filter p).map f).length ≤ done.length := by rw [List.length_map]; exact List.length_filter_le _ _
      have h3 : done.length ≤ items.length := by rw [hsp]; simp
      lia  
    · rw [filter_map_snoc (items := items)]
  · rintro X m cm v h1 L' D d' o' tsN h2 t2 C1 rfl C2
    obtain ⟨ob, C3, hd⟩ := comp_leave C1 C2
    exact fin L' D ob h2 t2 hd C3

/-- as an expression's value: a list that the frame keeps -/
theorem Ev.compN {elt target iter : Expr} {ifs : List Expr} {scope : Scope} {pos : Pos} {cl : List (Str × Addr)} {l0 : LV} {items : List LV} {K : Obj → Prop} {d₀ : List (Str × LV)} {up : LV → List (Str × LV) → List (Str × LV)} {p : LV → Bool} {f : LV → PyData}
    (ok : CompOk c scope cl iter d d₀) (H : EvP c A s d o iter l0) (hit : IterTo c A s d o l0 items K) (hK : ∀ ob, K ob → ob.cls = .type "list_iterator" ∨ (∀ it v, letOwnedTupleGo target it v = pure ()))
    (P : CompP c A s d elt target ifs scope cl d₀ up items p f) :
    Ev c A s d o (.ListComp elt [⟨target, iter, ifs, 0⟩] scope pos) (fun lv o' => ∃ a, lv = .at a ∧ o' = (a, .lst ((items.filter p).map f)) :: o) := by
  intro ts h tk Q E C k
  rw [eval_ListComp]
  refine comp_pure ok C H hit hK P fun L' D ob h2 t2 hd C2 => ?_
  obtain ⟨es, ep, hdat, hk⟩ := hd
  obtain ⟨X, m, cm, C2⟩ := C2
  have hL := (C2.owns (L', .raw ob) (by simp)).1
  refine ⟨nsFind es, ⟨ob, es, ep, hL, hdat, hk, fun _ => rfl⟩, fun h' hs => k _ _ _ _ _ ⟨D, rfl, rfl⟩ ⟨_, m, cm, C2.dropE hs.extBut⟩⟩
theorem EvP.comp {elt target iter : Expr} {ifs : List Expr} {scope : Scope} {pos : Pos} {cl : List (Str × Addr)} {l0 : LV} {items : List LV} {K : Obj → Prop} {d₀ : List (Str × LV)} {up : LV → List (Str × LV) → List (Str × LV)} {p : LV → Bool} {f : LV → PyData}
    (ok : CompOk c scope cl iter d d₀) (H : EvP c A s d o iter l0) (hit : IterTo c A s d o l0 items K) (hK : ∀ ob, K ob → ob.cls = .type "list_iterator" ∨ (∀ it v, letOwnedTupleGo target it v = pure ()))
    (P : CompP c A s d elt target ifs scope cl d₀ up items p f) : EvP c A s d o (.ListComp elt [⟨target, iter, ifs, 0⟩] scope pos) (.p (.list ((items.filter p).map f))) := by
  intro ts h tk Q E C k
  refine Ev.compN (pos := pos) ok H hit hK P ts h tk Q E C fun v h' tk' lv o' r C' => ?_
  obtain ⟨a, rfl, rfl⟩ := r
  obtain ⟨X, m, cm, C'⟩ := C'
  have e : v = .ref a := C'.tmps (v, .at a) (by simp)
  subst e
  exact k _ _ _ ⟨_, m, cm, C'.freeze.sub_ts fun q hq => by
    simp only [List.mem_cons] at hq ⊢
    rcases hq with hq | hq
    · exact .inl hq
    · exact .inr (.inr hq)⟩
/-- stored at once (the compiler's exchange of stores) -/
theorem Exs.setComp {Q : Flow → Shared → Prop} {E : Value → Shared → Prop} {elt target iter : Expr} {ifs : List Expr} {scope : Scope} {pos spos px : Pos} {x : Str} {rest : List Stmt} {cl : List (Str × Addr)} {l0 : LV} {items : List LV} {K : Obj → Prop} {d₀ : List (Str × LV)}
    {up : LV → List (Str × LV) → List (Str × LV)} {p : LV → Bool} {f : LV → PyData} (ok : CompOk c scope cl iter d d₀) (H : EvP c A s d o iter l0) (hit : IterTo c A s d o l0 items K) (hK : ∀ ob, K ob → ob.cls = .type "list_iterator" ∨ (∀ it v, letOwnedTupleGo target it v = pure ()))
    (P : CompP c A s d elt target ifs scope cl d₀ up items p f) (k : Exs c A s ((x, .p (.list ((items.filter p).map f))) :: d) o ts rest Q E)
    (hx : c.env.kindOf x = some .local := by rfl) (hkd : c.env.scope.kind = .function := by rfl)
    (hsw : swapsWith (.ListComp elt [⟨target, iter, ifs, 0⟩] scope pos) (some (.Name x px)) spos.line c.env = pure true := by rfl) :
    Exs c A s d o ts (.Assign [.Name x px] (.ListComp elt [⟨target, iter, ifs, 0⟩] scope pos) spos :: rest) Q E := by
  refine .cons fun h tk C => ?_
  rw [exec_Assign_Name_used _ _ _ _ hsw]
  refine wpAny_bind (wpAny_standAt (wpAny_bind ?_))
  show wpAny _ A (do let _ ← comprehension (.ListComp elt [⟨target, iter, ifs, 0⟩] scope pos) scope c.env _ (newList []) false (eval iter c.env) (some (assign (.Name x px) c.env))) _ _ _
  refine wpAny_bind (wpAny_mono (comp_pure (use := some (assign (.Name x px) c.env)) (Qv := fun _ s' => seqQ c A rest Q E .next s') ok C H hit hK P fun L' D ob h2 t2 hd C2 => ?_) (fun _ s' hq => wpAny_pure (wpAny_pure hq)) fun _ _ e => e)
  obtain ⟨es, ep, hdat, hk⟩ := hd
  show wpAny _ A (assign (.Name x px) c.env (.ref D)) _ _ _
  refine wpAny_assign_Name (stn_loc C2 (fun h3 t3 C3 => ?_) hx hkd)
  have hL : h3.get? L' = some ob := by obtain ⟨X, m, cm, C3⟩ := C3; exact (C3.owns (L', .raw ob) (by simp)).1
  refine ⟨nsFind es, ⟨ob, es, ep, hL, hdat, hk, fun _ => rfl⟩, fun h' hs => ?_⟩
  obtain ⟨X, m, cm, C3⟩ := C3
  have C4 : Cfg c ((x, .at D) :: d) ((D, .lst ((items.filter p).map f)) :: o) ts h' := ⟨_, m, cm, C3.dropE hs.extBut⟩
  refine k _ _ ((C4.frz (x := x) (by simp)).sub_d fun n lv e => ?_)
  rw [List.lookup_cons] at e ⊢
  cases hb : n == x with
  | true => rw [hb] at e; exact e
  | false => rw [hb] at e; simpa [List.lookup_cons, hb] using e

theorem CTgt.loc {x : Str} {px : Pos} {lv : LV} (hx : c.env.kindOf x = some .local := by rfl) (hk : c.env.scope.kind = .function := by rfl) : CTgt c A s (.Name x px) lv d ((x, lv) :: d) :=
  fun I ob o ts v h tk Q E _ C k => wpAny_pure (wpAny_assign_Name (stn_loc C k hx hk))
theorem CTgt.cel {x : Str} {px : Pos} {lv : LV} (hx : c.env.kindOf x = some .cell := by rfl) (hc : (c.env.cells.lookup x).isSome = true := by rfl) (ho : c.own x = true := by rfl) (hk : c.env.scope.kind = .function := by rfl) : CTgt c A s (.Name x px) lv d ((x, lv) :: d) :=
  fun I ob o ts v h tk Q E _ C k => wpAny_pure (wpAny_assign_Name (stn_cel C k hx hc ho hk))
end
end Mine
end

section
open PySem PySem.W PyProof.Rows PySem.Calls
open PySem.Builtin PySem.Builtin.Str
set_option linter.unusedVariables false
namespace Mine

theorem cLine_room {A : Around} (hA : Room 1 A) : A.units + 100 < cLine := by have := hA.un; lia  
theorem denT_str {h : Heap} {X : AP} {x : Str} {v : Value} (e : DenT h X (.str x) v) : ∃ t, v = .str x t := by
  have e : Den h X (.str x) v := e
  unfold Den at e; exact e
theorem denT_int {h : Heap} {X : AP} {x : Int} {v : Value} (e : DenT h X (.int x) v) : ∃ t, v = .int x t := by
  have e : Den h X (.int x) v := e
  unfold Den at e; exact e
theorem denT_bool {h : Heap} {X : AP} {x : Bool} {v : Value} (e : DenT h X (.bool x) v) : v = .bool x := by
  have e : Den h X (.bool x) v := e
  unfold Den at e; exact e
theorem den_str {h : Heap} {X : AP} {x : Str} {t : Tok} : Den h X (.str x) (.str x t) := by unfold Den; exact ⟨t, rfl⟩
theorem den_int {h : Heap} {X : AP} {x : Int} {t : Tok} : Den h X (.int x) (.int x t) := by unfold Den; exact ⟨t, rfl⟩
theorem den_bool {h : Heap} {X : AP} {x : Bool} : Den h X (.bool x) (.bool x) := by unfold Den; rfl
theorem gr_refl {h : Heap} : Gr h h := fun _ _ e => e
theorem gr_push {h : Heap} {o : Obj} : Gr h (h.push o) := fun _ _ e => Heap.get?_push_of_some _ e
theorem den_newList {h : Heap} {X : AP} {xs : List PyData} {vs : List Value} (hX : XD X h) (e : DenAll h X xs vs) : Den (h.push { cls := .type "list", data := .seq vs.toArray }) X (.list xs) (.ref h.objs.size) := by
  unfold Den
  exact ⟨_, vs, 0, rfl, freshX hX, Heap.get?_push_size _ rfl, e.mono (.ext gr_push)⟩

section
variable {A : Around}
theorem slice_line (n : Nat) (h : n ≤ sizeLine) : ¬ (n : Int) ≥ 2 ^ 63 := by
  have : sizeLine = 16777216 := by decide
  lia  

-- texts
theorem str_beq' (x y : Str) : (x.cps.toList == y.cps.toList) = (x == y) := by
  by_cases h : x = y
  · subst h; simp
  · have h2 : (x == y) = false := by simpa using h
    rw [h2]
    refine beq_eq_false_iff_ne.mpr fun e => h ?_
    cases x; cases y
    congr
    exact Array.toList_inj.mp e
theorem op_eq_str {a b : Str} : Op2 A (compareOp .Eq) (.str a) (.str b) (.bool (a == b)) := by
  intro prog w s h tk X u v Q E hA hX h1 h2 k
  obtain ⟨t, rfl⟩ := denT_str h1; obtain ⟨t', rfl⟩ := denT_str h2
  refine P.eq_str ?_
  rw [str_beq']; exact k _ h tk gr_refl den_bool
theorem op_ne_str {a b : Str} : Op2 A (compareOp .NotEq) (.str a) (.str b) (.bool (!(a == b))) := by
  intro prog w s h tk X u v Q E hA hX h1 h2 k
  obtain ⟨t, rfl⟩ := denT_str h1; obtain ⟨t', rfl⟩ := denT_str h2
  refine P.ne_str ?_
  have e : (a.cps.toList != b.cps.toList) = !(a == b) := by rw [bne, str_beq']
  rw [e]; exact k _ h tk gr_refl den_bool
theorem op_add_str {a b : Str} (hz : a.length + b.length ≤ sizeLine) : Op2 A (binaryOp .Add) (.str a) (.str b) (.str (a ++ b)) := by
  intro prog w s h tk X u v Q E hA hX h1 h2 k
  obtain ⟨t, rfl⟩ := denT_str h1; obtain ⟨t', rfl⟩ := denT_str h2
  refine P.add_str ?_
  by_cases ha : a.length == 0
  · rw [if_pos ha]
    have e : a ++ b = b := by
      have : a.cps = #[] := Array.eq_empty_of_size_eq_zero (by simpa [Str.length] using ha)
      exact Str.ext' (by simp [Str.cps_append, this])
    rw [e] at k
    exact k _ h tk gr_refl den_str
  · rw [if_neg ha]
    by_cases hb : b.length == 0
    · rw [if_pos hb]
      have e : a ++ b = a := by
        have : b.cps = #[] := Array.eq_empty_of_size_eq_zero (by simpa [Str.length] using hb)
        exact Str.ext' (by simp [Str.cps_append, this])
      rw [e] at k
      exact k _ h tk gr_refl den_str
    · rw [if_neg hb]
      exact ⟨by rw [Str.length_append]; exact hz, k _ h (tk + 1) gr_refl den_str⟩
theorem tr_str {a : Str} (hz : a.length ≤ sizeLine) : Tr A (.str a) (decide (a.length ≠ 0)) := by
  intro prog w s h tk X u Q E hA h1 k
  obtain ⟨t, rfl⟩ := denT_str h1
  refine P.truthy_str (slice_line _ hz) ?_
  have e : ((a.length : Int) != 0) = decide (a.length ≠ 0) := by
    by_cases h : a.length = 0 <;> simp [h]
  rw [e]; exact k _
theorem tr_bool {a : Bool} : Tr A (.bool a) a := by
  intro prog w s h tk X u Q E hA h1 k
  have := denT_bool h1; subst this
  exact wpAny_truthy_bool (k _)
theorem op_len_str {a : Str} (hz : a.length ≤ sizeLine) : Op1 A (fun u => call (.builtin "len") [u]) (.str a) (.int a.length) := by
  intro prog w s h tk X u Q E hA hX h1 k
  obtain ⟨t, rfl⟩ := denT_str h1
  exact P.len_str (slice_line _ hz) (k _ h _ gr_refl den_int)
theorem op_rfind {a b : Str} : Op2 A (fun u v => call (.builtin "str.rfind") [u, v]) (.str a) (.str b) (.int (Txt.rfind a b)) := by
  intro prog w s h tk X u v Q E hA hX h1 h2 k
  obtain ⟨t, rfl⟩ := denT_str h1; obtain ⟨t', rfl⟩ := denT_str h2
  exact SC.rfind (k _ h _ gr_refl den_int)
theorem op_rstrip {a b : Str} (hz : a.length ≤ sizeLine) : Op2 A (fun u v => call (.builtin "str.rstrip") [u, v]) (.str a) (.str b) (.str (Txt.rstripChars a b)) := by
  intro prog w s h tk X u v Q E hA hX h1 h2 k
  obtain ⟨t, rfl⟩ := denT_str h1; obtain ⟨t', rfl⟩ := denT_str h2
  exact SC.rstripChars (fun t' tk' => k _ h _ gr_refl den_str) hz
theorem op_mul_str {a : Str} {n : Int} (h1 : 0 ≤ n) (h2 : n ≤ 1000) (hz : a.length ≤ 1000) : Op2 A (binaryOp .Mult) (.str a) (.int n) (.str ⟨(List.replicate n.toNat a.cps).foldl (· ++ ·) #[]⟩) := by
  intro prog w s h tk X u v Q E hA hX e1 e2 k
  obtain ⟨t, rfl⟩ := denT_str e1; obtain ⟨t', rfl⟩ := denT_int e2
  have hsz : sizeLine = 16777216 := by decide
  have hmul : a.length * n.toNat ≤ 1000 * 1000 := Nat.mul_le_mul hz (by lia  )
  refine P.mul_str ?_ ?_ ?_ ?_
  · have h3 : ¬ n < -(2 ^ 63 : Int) := by lia  
    have h4 : ¬ n ≥ (2 ^ 63 : Int) := by lia  
    rw [decide_eq_false h3, decide_eq_false h4]; rfl
  · intro hn _ h5
    have h7 : (a.length : Int) * n ≤ 1000 * 1000 := Int.mul_le_mul (by lia  ) h2 h1 (by lia  )
    have h6 : (a.length : Int) ≤ (2 ^ 63 - 1) / n := Int.le_ediv_of_mul_le (by lia  ) (by lia  )
    lia  
  · intro _ _
    unfold tooLong
    simp only [decide_eq_false_iff_not]
    lia  
  · by_cases hn : n < 1
    · rw [if_pos hn]
      have : n = 0 := by lia  
      subst this
      exact ⟨by decide, k _ h _ gr_refl den_str⟩
    · rw [if_neg hn]
      by_cases h3 : (n == 1 || a.length == 0) = true
      · rw [if_pos h3]
        have e : (⟨(List.replicate n.toNat a.cps).foldl (· ++ ·) #[]⟩ : Str) = a := by
          rcases Bool.or_eq_true_iff.mp h3 with h3 | h3
          · have := eq_of_beq h3; subst this; cases a; simp
          · have ha : a.cps = #[] := Array.eq_empty_of_size_eq_zero (by simpa [Str.length] using h3)
            rw [ha]
            have : ∀ m : Nat, (List.replicate m (#[] : Array Nat)).foldl (· ++ ·) #[] = #[] := by
              intro m; induction m with
              | zero => rfl
              | succ m ih => simpa [List.replicate_succ] using ih
            rw [this]
            cases a; simp at ha; rw [ha]
        rw [e] at k
        exact k _ h tk gr_refl den_str
      · rw [if_neg h3]
        refine ⟨?_, k _ h _ gr_refl den_str⟩
        have : ∀ (m : Nat) (acc : Array Nat), ((List.replicate m a.cps).foldl (· ++ ·) acc).size = acc.size + m * a.cps.size := by
          intro m; induction m with
          | zero => intro acc; simp
          | succ m ih => intro acc; rw [List.replicate_succ, List.foldl_cons, ih, Array.size_append, Nat.succ_mul]; lia  
        show ((List.replicate n.toNat a.cps).foldl (· ++ ·) #[]).size ≤ sizeLine
        rw [this]
        have : a.cps.size = a.length := rfl
        rw [this, Nat.mul_comm]
        simp only [Array.size_empty]
        lia  
end
end Mine
end

section
open PySem PySem.W PyProof.Rows PySem.Calls
open PySem.Builtin PySem.Builtin.Str
set_option linter.unusedVariables false
namespace Mine

section
variable {A : Around}
theorem op_add_int {a b : Int} : Op2 A (binaryOp .Add) (.int a) (.int b) (.int (a + b)) := by
  intro prog w s h tk X u v Q E hA hX h1 h2 k
  obtain ⟨t, rfl⟩ := denT_int h1; obtain ⟨t', rfl⟩ := denT_int h2
  exact wpAny_add_int (k _ h _ gr_refl den_int)
theorem op_sub_int {a b : Int} : Op2 A (binaryOp .Sub) (.int a) (.int b) (.int (a - b)) := by
  intro prog w s h tk X u v Q E hA hX h1 h2 k
  obtain ⟨t, rfl⟩ := denT_int h1; obtain ⟨t', rfl⟩ := denT_int h2
  exact PyProof.Rows.sub_int' (k _ h _ gr_refl den_int)
theorem op_mod_int {a b : Int} (hb : b ≠ 0) : Op2 A (binaryOp .Mod) (.int a) (.int b) (.int (a.fmod b)) := by
  intro prog w s h tk X u v Q E hA hX h1 h2 k
  obtain ⟨t, rfl⟩ := denT_int h1; obtain ⟨t', rfl⟩ := denT_int h2
  exact PyProof.Rows.mod_int' hb (k _ h _ gr_refl den_int)
theorem op_fdiv_int {a b : Int} (hb : b ≠ 0) (h0 : b.natAbs < 1000) : Op2 A (binaryOp .FloorDiv) (.int a) (.int b) (.int (a.fdiv b)) := by
  intro prog w s h tk X u v Q E hA hX e1 e2 k
  obtain ⟨t, rfl⟩ := denT_int e1; obtain ⟨t', rfl⟩ := denT_int e2
  exact PyProof.Rows.floordiv_int hb (k _ h _ gr_refl den_int) (.inl (PyProof.noPylong_small (by lia  )))
theorem op_neg_int {a : Int} : Op1 A (unaryOp .USub) (.int a) (.int (-a)) := by
  intro prog w s h tk X u Q E hA hX h1 k
  obtain ⟨t, rfl⟩ := denT_int h1
  exact PyProof.Rows.neg_int (k _ h _ gr_refl den_int)
theorem op_eq_int {a b : Int} : Op2 A (compareOp .Eq) (.int a) (.int b) (.bool (a == b)) := by
  intro prog w s h tk X u v Q E hA hX h1 h2 k
  obtain ⟨t, rfl⟩ := denT_int h1; obtain ⟨t', rfl⟩ := denT_int h2
  exact PyProof.Rows.eq_int (k _ h _ gr_refl den_bool)
theorem op_gt_int {a b : Int} : Op2 A (compareOp .Gt) (.int a) (.int b) (.bool (decide (b < a))) := by
  intro prog w s h tk X u v Q E hA hX h1 h2 k
  obtain ⟨t, rfl⟩ := denT_int h1; obtain ⟨t', rfl⟩ := denT_int h2
  exact PyProof.Rows.gt_int (k _ h _ gr_refl den_bool)
theorem op_abs {a : Int} : Op1 A (fun u => call (.builtin "abs") [u]) (.int a) (.int (if a < 0 then -a else a)) := by
  intro prog w s h tk X u Q E hA hX h1 k
  obtain ⟨t, rfl⟩ := denT_int h1
  exact call_abs_int fun u tk => k _ h _ gr_refl den_int
theorem op_max {a b : Int} (hh : A.handled = none) : Op2 A (fun u v => call (.builtin "max") [u, v]) (.int a) (.int b) (.int (if b > a then b else a)) := by
  intro prog w s h tk X u v Q E hA hX h1 h2 k
  obtain ⟨t, rfl⟩ := denT_int h1; obtain ⟨t', rfl⟩ := denT_int h2
  refine max_two_ints hh fun h' tk' g => ?_
  by_cases hb : b > a
  · rw [if_pos hb] at k ⊢; exact k _ h' _ g den_int
  · rw [if_neg hb] at k ⊢; exact k _ h' _ g den_int

-- lists
theorem denT_list {h : Heap} {X : AP} {xs : List PyData} {v : Value} (e : DenT h X (.list xs) v) : ∃ a vs n, v = .ref a ∧ h.get? a = some (listO vs n) ∧ DenAll h X xs vs := e
theorem denT_tuple {h : Heap} {X : AP} {xs : List PyData} {v : Value} (e : DenT h X (.tuple xs) v) : ∃ a vs n, v = .ref a ∧ h.get? a = some (tupO vs n) ∧ DenAll h X xs vs := by
  have e : Den h X (.tuple xs) v := e
  unfold Den at e
  obtain ⟨a, vs, n, h1, _, h3, h4⟩ := e
  exact ⟨a, vs, n, h1, h3, h4⟩
theorem sizeLine_lt {n : Nat} (h : n ≤ sizeLine) : (n : Int) < 2 ^ 62 := by
  have : sizeLine = 16777216 := by decide
  lia  
theorem op_len_list {xs : List PyData} (hz : xs.length ≤ sizeLine) : Op1 A (fun u => call (.builtin "len") [u]) (.list xs) (.int xs.length) := by
  intro prog w s h tk X u Q E hA hX h1 k
  obtain ⟨a, vs, n, rfl, ho, hd⟩ := denT_list h1
  have hl := hd.length
  have := sizeLine_lt hz
  refine call_len_list (items := vs.toArray) ⟨_, ho, rfl, n, rfl⟩ (by simp; lia  ) ?_
  have e : ((vs.toArray.size : Nat) : Int) = (xs.length : Int) := by simp [hl]
  rw [e]
  exact k _ h _ gr_refl den_int
theorem tr_list {xs : List PyData} (hz : xs.length ≤ sizeLine) : Tr A (.list xs) (!xs.isEmpty) := by
  intro prog w s h tk X u Q E hA h1 k
  obtain ⟨a, vs, n, rfl, ho, hd⟩ := denT_list h1
  have hl := hd.length
  have := sizeLine_lt hz
  have e : (!vs.toArray.isEmpty) = (!xs.isEmpty) := by
    cases xs <;> cases vs <;> simp_all
  refine wpAny_truthy_list (items := vs.toArray) ⟨_, ho, rfl, n, rfl⟩ (by simp; lia  ) ?_
  rw [e]
  exact k _
theorem op_idx {xs : List PyData} {k : Int} {y : PyData} (h0 : 0 ≤ k) (hy : xs[k.toNat]? = some y) (hz : xs.length ≤ sizeLine) : Op2 A getItem (.list xs) (.int k) y := by
  intro prog w s h tk X u v Q E hA hX h1 h2 kk
  obtain ⟨a, vs, n, rfl, ho, hd⟩ := denT_list h1; obtain ⟨t', rfl⟩ := denT_int h2
  obtain ⟨v, hv, hdv⟩ := hd.get _ _ hy
  have hlt : k.toNat < xs.length := (List.getElem?_eq_some_iff.mp hy).1
  have := sizeLine_lt hz
  exact wpAny_getItem_list (items := vs.toArray) (x := v) ⟨_, ho, rfl, n, rfl⟩ h0 (by lia  ) (by simpa using hv) (kk _ h _ gr_refl hdv)
theorem op_idx_neg {xs : List PyData} {k : Int} {y : PyData} (h0 : k < 0) (h1 : -(xs.length : Int) ≤ k) (hy : xs[(k + xs.length).toNat]? = some y) (hz : xs.length ≤ sizeLine) : Op2 A getItem (.list xs) (.int k) y := by
  intro prog w s h tk X u v Q E hA hX e1 e2 kk
  obtain ⟨a, vs, n, rfl, ho, hd⟩ := denT_list e1; obtain ⟨t', rfl⟩ := denT_int e2
  obtain ⟨v, hv, hdv⟩ := hd.get _ _ hy
  have hl := hd.length
  have := sizeLine_lt hz
  exact wpAny_getItem_list_neg (items := vs.toArray) (x := v) ⟨_, ho, rfl, n, rfl⟩ h0 (by simp [hl]; exact h1) (by lia  ) (by simpa [hl] using hv) (kk _ h _ gr_refl hdv)
theorem op_add_list {xs ys : List PyData} (hz : xs.length + ys.length ≤ sizeLine) : Op2 A (binaryOp .Add) (.list xs) (.list ys) (.list (xs ++ ys)) := by
  intro prog w s h tk X u v Q E hA hX h1 h2 k
  obtain ⟨a, vs, n, rfl, ho, hd⟩ := denT_list h1; obtain ⟨a', vs', n', rfl, ho', hd'⟩ := denT_list h2
  have hl := hd.length
  have hl' := hd'.length
  refine P.add_list (items := vs.toArray) (items2 := vs'.toArray) (n := n) (n2 := n') ho ho' ?_ (by simp; lia  )
  have e : vs.toArray ++ vs'.toArray = (vs ++ vs').toArray := by simp
  rw [e]
  exact k _ _ tk gr_push (den_newList hX (hd.append hd'))
theorem sl_core {xs ys : List PyData} {lo hi st : Option Int} (h0 : st ≠ some 0) (hz : xs.length ≤ sizeLine) (hp : ∀ (h : Heap) (X : AP) (vs : List Value), DenAll h X xs vs → DenAll h X ys (slicePick vs.toArray lo hi st).toList) : SlOp A (.list xs) lo hi st (.list ys) := by
  intro prog w s h tk X u sl vl vu vst Q E hA hX h1 hsl d1 d2 d3 k
  obtain ⟨a, vs, n, rfl, ho, hd⟩ := denT_list h1
  have hl := hd.length
  refine wpAny_getItem_list_slice (items := vs.toArray) (sl := sl) ⟨_, ho, rfl, n, rfl⟩ ⟨_, hsl, rfl, rfl⟩ (partD.is d1) (partD.is d2) (partD.is d3) h0 ?_ (by simp; lia  )
  have e : slicePick vs.toArray lo hi st = (slicePick vs.toArray lo hi st).toList.toArray := by simp
  rw [e]
  exact k _ _ tk gr_push (den_newList hX (hp h X vs hd))
theorem sl_from {xs : List PyData} (a : Nat) (hz : xs.length ≤ sizeLine) : SlOp A (.list xs) (some (a : Nat)) none none (.list (xs.drop a)) :=
  sl_core (by simp) hz fun h X vs hd => by rw [slicePick_from']; simpa using hd.drop a
theorem sl_upto {xs : List PyData} (a : Nat) (hz : xs.length ≤ sizeLine) : SlOp A (.list xs) none (some (a : Nat)) none (.list (xs.take a)) :=
  sl_core (by simp) hz fun h X vs hd => by rw [slicePick_upto']; simpa using hd.take a
theorem sl_rev {xs : List PyData} (hz : xs.length ≤ sizeLine) : SlOp A (.list xs) none none (some (-1)) (.list xs.reverse) :=
  sl_core (by simp) hz fun h X vs hd => by rw [krv_pick]; simpa using hd.reverse
theorem sl_one {xs : List PyData} (hz : xs.length ≤ sizeLine) : SlOp A (.list xs) none none (some 1) (.list xs) :=
  sl_core (by simp) hz fun h X vs hd => by
    have e : slicePick vs.toArray none none (some 1) = slicePick vs.toArray none none none := by unfold slicePick; rfl
    rw [e, slicePick_all]; simpa using hd
end
end Mine
end

section
open PySem PySem.W PyProof.Rows PySem.Calls PySem.SeqAt
open PySem.Builtin PySem.Builtin.Str
set_option linter.unusedVariables false
namespace Mine

/-- a list of texts -/
noncomputable abbrev SL (xs : List Str) : PyData := .list (xs.map .str)

section
variable {A : Around}

theorem den_at_str {h : Heap} {X : AP} {xs : List Str} {vs : List Value} (e : DenAll h X (xs.map .str) vs) {i : Nat} {v : Value} (hv : vs[i]? = some v) : ∃ x t, xs[i]? = some x ∧ v = .str x t := by
  obtain ⟨p, hp, hd⟩ := e.get' i v hv
  rw [List.getElem?_map] at hp
  cases hx : xs[i]? with
  | none => rw [hx] at hp; cases hp
  | some x =>
    rw [hx] at hp
    cases hp
    unfold Den at hd
    obtain ⟨t, rfl⟩ := hd
    exact ⟨x, t, rfl, rfl⟩

theorem all_eq_of {xs ys : List Str} (h : xs.length = ys.length) : (List.range xs.length).all (fun i => xs[i]? == ys[i]?) = (xs == ys) := by
  by_cases e : xs = ys
  · subst e; simp
  · have e2 : (xs == ys) = false := by simpa using e
    rw [e2, Bool.eq_false_iff]
    intro hh
    refine e (List.ext_getElem? fun i => ?_)
    by_cases hi : i < xs.length
    · have := List.all_eq_true.mp hh i (List.mem_range.mpr hi)
      simpa using this
    · rw [List.getElem?_eq_none (by lia  ), List.getElem?_eq_none (by lia  )]

theorem eqs_core {h : Heap} {X : AP} {xs ys : List Str} {vs us : List Value} {s : Shared} {tk : Nat} (d1 : DenAll h X (xs.map .str) vs) (d2 : DenAll h X (ys.map .str) us) :
    ∀ j (h1 : j < vs.toArray.size) (h2 : j < us.toArray.size), EqAt A.in1 (St s h tk) vs.toArray[j] us.toArray[j] (xs[j]? == ys[j]?) := by
  intro j h1 h2
  have h1' : j < vs.length := by simpa using h1
  have h2' : j < us.length := by simpa using h2
  obtain ⟨x, t, hx, e1⟩ := den_at_str d1 (i := j) (v := vs[j]) (by simp)
  obtain ⟨y, t', hy, e2⟩ := den_at_str d2 (i := j) (v := us[j]) (by simp)
  have e1' : vs.toArray[j] = .str x t := by simpa using e1
  have e2' : us.toArray[j] = .str y t' := by simpa using e2
  rw [e1', e2', hx, hy]
  have : (some x == some y) = (x == y) := rfl
  rw [this]
  exact EqAt.str_str x t y t'

theorem rc_strs {h : Heap} {X : AP} {xs ys : List Str} {s : Shared} {tk : Nat} {a b n m : Nat} {vs us : List Value} (hA : A.units < cLine) (ho : h.get? a = some (listO vs n)) (ho' : h.get? b = some (listO us m)) (d1 : DenAll h X (xs.map .str) vs) (d2 : DenAll h X (ys.map .str) us) :
    RcAt A (St s h tk) (.ref a) (.ref b) (xs == ys) ∧ RcNeAt A (St s h tk) (.ref a) (.ref b) (!(xs == ys)) := by
  have l1 : vs.length = xs.length := by simpa using d1.length
  have l2 : us.length = ys.length := by simpa using d2.length
  have i1 : (St s h tk).heap.IsList a vs.toArray := ⟨_, ho, rfl, n, rfl⟩
  have i2 : (St s h tk).heap.IsList b us.toArray := ⟨_, ho', rfl, m, rfl⟩
  by_cases hl : vs.length = us.length
  · have e : (List.range vs.toArray.size).all (fun i => xs[i]? == ys[i]?) = (xs == ys) := by
      have : vs.toArray.size = xs.length := by simpa using l1
      rw [this]; exact all_eq_of (by lia  )
    have r1 := RcAt.lists i1 i2 (by simpa using hl) hA (eqs_core d1 d2)
    have r2 := RcNeAt.lists i1 i2 (by simpa using hl) hA (eqs_core d1 d2)
    rw [e] at r1 r2
    exact ⟨r1, r2⟩
  · have e : (xs == ys) = false := by
      refine Bool.eq_false_iff.mpr fun q => hl ?_
      have := eq_of_beq q; subst this; lia  
    have hsz : (vs.toArray.size != us.toArray.size) = true := by simpa using hl
    rw [e]
    exact ⟨RcAt.lists_lengths i1 i2 hsz hA, RcNeAt.lists_lengths i1 i2 hsz hA⟩

theorem op_eq_strs {xs ys : List Str} : Op2 A (compareOp .Eq) (SL xs) (SL ys) (.bool (xs == ys)) := by
  intro prog w s h tk X u v Q E hA hX h1 h2 k
  obtain ⟨a, vs, n, rfl, ho, hd⟩ := denT_list h1; obtain ⟨b, us, m, rfl, ho', hd'⟩ := denT_list h2
  exact (rc_strs (by have := cLine_room hA; lia  ) ho ho' hd hd').1 prog w E Q (k _ h tk gr_refl den_bool)
theorem op_ne_strs {xs ys : List Str} : Op2 A (compareOp .NotEq) (SL xs) (SL ys) (.bool (!(xs == ys))) := by
  intro prog w s h tk X u v Q E hA hX h1 h2 k
  obtain ⟨a, vs, n, rfl, ho, hd⟩ := denT_list h1; obtain ⟨b, us, m, rfl, ho', hd'⟩ := denT_list h2
  exact (rc_strs (by have := cLine_room hA; lia  ) ho ho' hd hd').2 prog w E Q (k _ h tk gr_refl den_bool)
/-- == [] -/
theorem op_eq_nil {xs : List PyData} : Op2 A (compareOp .Eq) (.list xs) (.list []) (.bool xs.isEmpty) := by
  intro prog w s h tk X u v Q E hA hX h1 h2 k
  obtain ⟨a, vs, n, rfl, ho, hd⟩ := denT_list h1; obtain ⟨b, us, m, rfl, ho', hd'⟩ := denT_list h2
  have l1 := hd.length
  have l2 : us = [] := by unfold DenAll at hd'; exact hd'
  subst l2
  have hu := cLine_room hA
  cases xs with
  | nil =>
    have : vs = [] := by unfold DenAll at hd; exact hd
    subst this
    exact eq_listAt (items := #[]) (items2 := #[]) (e := fun _ => true) ⟨_, ho, rfl, n, rfl⟩ ⟨_, ho', rfl, m, rfl⟩ rfl (by lia  ) (fun j h1 => by simp at h1) (k _ h tk gr_refl den_bool)
  | cons x xs =>
    refine eq_list_lengthsAt (items := vs.toArray) (items2 := #[]) ⟨_, ho, rfl, n, rfl⟩ ⟨_, ho', rfl, m, rfl⟩ ?_ (by lia  ) (k _ h tk gr_refl den_bool)
    simp only [List.size_toArray, l1, List.length_cons]
    rfl

/-- a text's letters behind a value -/
noncomputable def strOfV : Value → Option Str
  | .str x _ => some x
  | _ => none
theorem any_strs {h : Heap} {X : AP} {x : Str} : ∀ {ys : List Str} {vs : List Value}, DenAll h X (ys.map .str) vs → vs.any (fun v => strOfV v == some x) = ys.contains x
  | [], _, e => by unfold DenAll at e; simp at e; subst e; rfl
  | y :: ys, _, e => by
    simp only [List.map_cons] at e
    unfold DenAll at e
    obtain ⟨v, r, rfl, h1, h2⟩ := e
    unfold Den at h1
    obtain ⟨t, rfl⟩ := h1
    have ih := any_strs (x := x) h2
    rw [List.any_cons, ih, List.contains_cons]
    congr 1
    show (some y == some x) = (x == y)
    have : (some y == some x) = (y == x) := rfl
    rw [this]
    by_cases hh : y = x
    · subst hh; simp
    · have h2 : (y == x) = false := by simpa using hh
      have h3 : (x == y) = false := by simpa using fun e => hh e.symm
      rw [h2, h3]
theorem eqg_strs {h : Heap} {X : AP} {x : Str} {t : Tok} {ys : List Str} {vs : List Value} {s : Shared} {tk : Nat} (e : DenAll h X (ys.map .str) vs) : ∀ y, y ∈ vs.toArray → EqAt A.in1 (St s h tk) y (.str x t) (strOfV y == some x) := by
  intro v hv
  have hv' : v ∈ vs := by simpa using hv
  obtain ⟨i, hi, e1⟩ := List.mem_iff_getElem.mp hv'
  obtain ⟨y, t', hy, e2⟩ := den_at_str e (i := i) (v := v) (by simp [hi, e1])
  subst e2
  have : (strOfV (.str y t') == some x) = (y == x) := rfl
  rw [this]
  exact EqAt.str_str y t' x t
theorem op_in_strs {x : Str} {ys : List Str} : Op2 A (compareOp .In) (.str x) (SL ys) (.bool (ys.contains x)) := by
  intro prog w s h tk X u v Q E hA hX h1 h2 k
  obtain ⟨t, rfl⟩ := denT_str h1; obtain ⟨b, us, m, rfl, ho', hd'⟩ := denT_list h2
  refine in_listAt (items := us.toArray) (fun y => strOfV y == some x) ⟨_, ho', rfl, m, rfl⟩ (eqg_strs hd') ?_
  have e : us.toArray.any (fun y => strOfV y == some x) = us.any fun y => strOfV y == some x := by simp
  rw [e, any_strs hd']
  exact k _ h tk gr_refl den_bool
theorem op_notin_tup {x : Str} {ys : List Str} : Op2 A (compareOp .NotIn) (.str x) (.tuple (ys.map .str)) (.bool (!(ys.contains x))) := by
  intro prog w s h tk X u v Q E hA hX h1 h2 k
  obtain ⟨t, rfl⟩ := denT_str h1; obtain ⟨b, us, m, rfl, ho', hd'⟩ := denT_tuple h2
  refine notIn_tupleAt (items := us.toArray) (fun y => strOfV y == some x) ⟨_, ho', rfl, m, rfl⟩ (eqg_strs hd') ?_
  have e : us.toArray.any (fun y => strOfV y == some x) = us.any fun y => strOfV y == some x := by simp
  rw [e, any_strs hd']
  exact k _ h tk gr_refl den_bool

/-- row not in rows -/
theorem op_notin_rows {x : List Str} {ys : List (List Str)} : Op2 A (compareOp .NotIn) (SL x) (.list (ys.map SL)) (.bool (!(ys.contains x))) := by
  intro prog w s h tk X u v Q E hA hX h1 h2 k
  obtain ⟨a, vs, n, rfl, ho, hd⟩ := denT_list h1; obtain ⟨b, us, m, rfl, ho', hd'⟩ := denT_list h2
  have hu := cLine_room hA
  -- the answer at each value
  have key : ∀ (ys : List (List Str)) (us : List Value), DenAll h X (ys.map SL) us → ∃ e : Value → Bool, True := fun _ _ _ => ⟨fun _ => true, trivial⟩
  let f : Value → Bool := fun v => match v with
    | .ref c => (match h.get? c with
      | some ⟨_, _, .seq ws _, _⟩ => (ws.toList.map strOfV) == x.map some
      | _ => false)
    | _ => false
  have one : ∀ {y : List Str} {v : Value}, Den h X (SL y) v → f v = (y == x) ∧ EqAt A.in1 (St s h tk) v (.ref a) (y == x) := by
    intro y v e
    unfold Den at e
    obtain ⟨c, ws, q, rfl, hx, hc, hw⟩ := e
    have hmap : ∀ {y : List Str} {ws : List Value}, DenAll h X (y.map .str) ws → ws.map strOfV = y.map some := by
      intro y
      induction y with
      | nil => intro ws e; simp at e; unfold DenAll at e; subst e; rfl
      | cons y ys ih =>
        intro ws e
        simp only [List.map_cons] at e
        unfold DenAll at e
        obtain ⟨v, r, rfl, h1, h2⟩ := e
        unfold Den at h1
        obtain ⟨t, rfl⟩ := h1
        simp only [List.map_cons, ih h2]
        rfl
    refine ⟨?_, ?_⟩
    · show (match h.get? c with | some ⟨_, _, .seq ws _, _⟩ => (ws.toList.map strOfV) == x.map some | _ => false) = _
      rw [hc]
      show ((ws.toArray.toList.map strOfV) == x.map some) = _
      have : ws.toArray.toList = ws := rfl
      rw [this, hmap hw]
      by_cases hyx : y = x
      · subst hyx; simp
      · have h2 : (y == x) = false := by simpa using hyx
        rw [h2, Bool.eq_false_iff]
        intro e
        have := eq_of_beq e
        exact hyx ((List.map_inj_right fun _ _ e => by injection e).mp this)
    · by_cases hca : c = a
      · subst hca
        rw [ho] at hc
        have e1 : vs = ws := by
          have e1 := Option.some.inj hc
          have e2 : Data.seq vs.toArray n = Data.seq ws.toArray q := congrArg Obj.data e1
          injection e2 with e3 e4
          simpa using e3
        have e2 : y = x := by
          have := hmap hw
          rw [← e1, hmap hd] at this
          exact ((List.map_inj_right fun _ _ e => by injection e).mp this).symm
        subst e2
        simpa using EqAt.same (.ref c)
      · exact EqAt.of_refs hca (rc_strs (by show A.units + 1 < _; lia  ) hc ho hw hd).1
  refine notIn_listAt (items := us.toArray) f ⟨_, ho', rfl, m, rfl⟩ (fun v hv => ?_) ?_
  · have hv' : v ∈ us := by simpa using hv
    obtain ⟨i, hi, e1⟩ := List.mem_iff_getElem.mp hv'
    obtain ⟨p, hp, hdp⟩ := hd'.get' i v (by simp [hi, e1])
    rw [List.getElem?_map] at hp
    cases hy : ys[i]? with
    | none => rw [hy] at hp; cases hp
    | some y =>
      rw [hy] at hp
      cases hp
      obtain ⟨e1, e2⟩ := one hdp
      rw [e1]; exact e2
  · have e : us.toArray.any f = us.any f := by simp
    have e2 : ∀ {ys : List (List Str)} {us : List Value}, DenAll h X (ys.map SL) us → us.any f = ys.contains x := by
      intro ys
      induction ys with
      | nil => intro us e; simp at e; unfold DenAll at e; subst e; rfl
      | cons y ys ih =>
        intro us e
        simp only [List.map_cons] at e
        unfold DenAll at e
        obtain ⟨v, r, rfl, h1, h2⟩ := e
        rw [List.any_cons, ih h2, List.contains_cons, (one h1).1]
        congr 1
        by_cases hh : y = x
        · subst hh; simp
        · have h2 : (y == x) = false := by simpa using hh
          have h3 : (x == y) = false := by simpa using fun e => hh e.symm
          rw [h2, h3]
    rw [e, e2 hd']
    exact k _ h tk gr_refl den_bool

-- tuples
theorem op_tup_idx {xs : List PyData} {k : Int} {y : PyData} (h0 : 0 ≤ k) (hy : xs[k.toNat]? = some y) (hz : xs.length ≤ sizeLine) : Op2 A getItem (.tuple xs) (.int k) y := by
  intro prog w s h tk X u v Q E hA hX h1 h2 kk
  obtain ⟨a, vs, n, rfl, ho, hd⟩ := denT_tuple h1; obtain ⟨t', rfl⟩ := denT_int h2
  obtain ⟨v, hv, hdv⟩ := hd.get _ _ hy
  have hlt : k.toNat < xs.length := (List.getElem?_eq_some_iff.mp hy).1
  have hl := hd.length
  have := sizeLine_lt hz
  exact getItem_tuple (items := vs.toArray) (j := k.toNat) (x := v) ⟨_, ho, rfl, n, rfl⟩ (by lia  ) (by lia  ) (seqIndex_of h0 (by simp [hl]; lia  )) (by simpa using hv) (kk _ h _ gr_refl hdv)

-- pieces of texts
/-- a text from its signs -/
noncomputable abbrev T (l : List Nat) : Str := ⟨l.toArray⟩
theorem T_self (x : Str) : T x.cps.toList = x := by cases x; rfl
theorem T_len (l : List Nat) : (T l).length = l.length := by show l.toArray.size = _; simp
noncomputable def cutLo (n : Nat) : Option Nat → Nat
  | none => 0
  | some a => min a n
noncomputable def cutHi (n : Nat) : Option Nat → Nat
  | none => n
  | some b => min b n
theorem picked_cut (x : Str) (lo hi : Option Nat) :
    (strSliceIndices (lo.map Int.ofNat) (hi.map Int.ofNat) 1 x.length).filterMap (x.cps[·]?) = (x.cps.toList.drop (cutLo x.length lo)).take (cutHi x.length hi - cutLo x.length lo) := by
  have e : strSliceIndices (lo.map Int.ofNat) (hi.map Int.ofNat) 1 x.length = sliceRange (cutLo x.length lo : Nat) (cutHi x.length hi : Nat) 1 := by
    unfold strSliceIndices
    simp only [show (1 : Int) > 0 by decide, if_true]
    congr 1
    · cases lo with
      | none => rfl
      | some a =>
        simp only [Option.map_some, cutLo]
        have h1 : ¬ (Int.ofNat a < 0) := by simp
        rw [if_neg h1]
        simp only [Int.ofNat_eq_natCast]
        lia  
    · cases hi with
      | none => rfl
      | some a =>
        simp only [Option.map_some, cutHi]
        have h1 : ¬ (Int.ofNat a < 0) := by simp
        rw [if_neg h1]
        simp only [Int.ofNat_eq_natCast]
        lia  
  rw [e, sliceRange_one, pick_run]
theorem sl_str {x : Str} (lo hi : Option Nat) (hz : x.length ≤ sizeLine) : SlOp A (.str x) (lo.map Int.ofNat) (hi.map Int.ofNat) none (.str (T ((x.cps.toList.drop (cutLo x.length lo)).take (cutHi x.length hi - cutLo x.length lo)))) := by
  intro prog w s h tk X u sl vl vu vst Q E hA hX h1 hsl d1 d2 d3 k
  obtain ⟨t, rfl⟩ := denT_str h1
  have part : ∀ {lo : Option Int} {v : Value}, Den h X (partD lo) v → ∃ l : Option (Int × Tok), l.map (·.1) = lo ∧ v = partValue l := by
    intro lo v e
    cases lo with
    | none => unfold partD Den at e; subst e; exact ⟨none, rfl, rfl⟩
    | some i => unfold partD Den at e; obtain ⟨t, rfl⟩ := e; exact ⟨some (i, t), rfl, rfl⟩
  obtain ⟨l, hl, rfl⟩ := part d1
  obtain ⟨r, hr, rfl⟩ := part d2
  have e3 : vst = .none := by unfold partD Den at d3; exact d3
  subst e3
  refine wpAny_getItem_str_slice (l := l) (u := r) (st := none) ⟨_, hsl, rfl, rfl⟩ rfl ?_
  have e4 : slicePicked x l r none = strSliceIndices (lo.map Int.ofNat) (hi.map Int.ofNat) 1 x.length := by unfold slicePicked; rw [hl, hr]; rfl
  unfold sliceMade
  rw [e4, picked_cut]
  have hsub : ((x.cps.toList.drop (cutLo x.length lo)).take (cutHi x.length hi - cutLo x.length lo)).length ≤ x.length := by
    rw [List.length_take, List.length_drop]
    have : x.cps.toList.length = x.length := by simp [Str.length]
    lia  
  split
  · rename_i hc
    have e5 : T ((x.cps.toList.drop (cutLo x.length lo)).take (cutHi x.length hi - cutLo x.length lo)) = x := by
      have h2 : (strSliceIndices (lo.map Int.ofNat) (hi.map Int.ofNat) 1 x.length).length = x.length := by
        simp only [Option.map_none, Option.getD_none, Bool.and_eq_true, beq_iff_eq] at hc; exact hc.2
      have h3 : (strSliceIndices (lo.map Int.ofNat) (hi.map Int.ofNat) 1 x.length).length = cutHi x.length hi - cutLo x.length lo := by
        have e : strSliceIndices (lo.map Int.ofNat) (hi.map Int.ofNat) 1 x.length = sliceRange (cutLo x.length lo : Nat) (cutHi x.length hi : Nat) 1 := by
          unfold strSliceIndices
          simp only [show (1 : Int) > 0 by decide, if_true]
          congr 1
          · cases lo with
            | none => rfl
            | some a =>
              simp only [Option.map_some, cutLo]
              rw [if_neg (show ¬ (Int.ofNat a < 0) by simp)]
              simp only [Int.ofNat_eq_natCast]
              lia  
          · cases hi with
            | none => rfl
            | some a =>
              simp only [Option.map_some, cutHi]
              rw [if_neg (show ¬ (Int.ofNat a < 0) by simp)]
              simp only [Int.ofNat_eq_natCast]
              lia  
        rw [e, sliceRange_one]; simp
      have h4 : cutHi x.length hi ≤ x.length := by cases hi <;> simp [cutHi]; lia  
      have hlen : x.cps.toList.length = x.length := by simp [Str.length]
      by_cases hx : x.length = 0
      · have : x.cps.toList = [] := List.length_eq_zero_iff.mp (by lia  )
        rw [this]
        have h7 := T_self x
        rw [this] at h7
        simpa using h7
      · have h5 : cutLo x.length lo = 0 := by lia  
        have h6 : cutHi x.length hi = x.length := by lia  
        rw [h5, h6, List.drop_zero, Nat.sub_zero, List.take_of_length_le (by lia  )]
    rw [e5] at k
    exact k _ h tk gr_refl den_str
  · exact ⟨by show (T _).length ≤ _; rw [T_len]; lia  , k _ h _ gr_refl den_str⟩
end
end Mine
end

section
open PySem PySem.W PyProof.Rows PySem.Calls PySem.SeqAt
open PySem.Builtin PySem.Builtin.Str
set_option linter.unusedVariables false
namespace Mine

section
variable {prog : Program} {w : World} {A : Around} {E : Value → Shared → Prop} {s : Shared}

theorem kind_issub : builtinKind "issubclass" = none := by decide +kernel
theorem plain_issub : plainId "issubclass" = true := by decide +kernel
theorem plain_issubN : plainId "issubclass.nested" = true := by decide +kernel
theorem kind_issubN : builtinKind "issubclass.nested" = none := by decide +kernel
theorem args_issub (a b : Value) : argsOk "issubclass" ⟨[a, b], []⟩ := by unfold argsOk; kernel_rfl
theorem args_issubN (a b c : Value) : argsOk "issubclass.nested" ⟨[a, b, c], []⟩ := by unfold argsOk; kernel_rfl
theorem entry_issub : entryFor table "issubclass" = some Builtin.«issubclass» := entryFor_of_tree (by kernel_rfl)
theorem entry_issubN : entryFor table "issubclass.nested" = some Builtin.«issubclass.nested» := entryFor_of_tree (by kernel_rfl)

theorem typeOf_tstr : typeOf (.type "str") = pure (.type "type") := by kernel_rfl
theorem issub_str {dep : Int} {k : Tok} : Meets (Builtin.«issubclass.nested» ⟨[.type "str", .type "str", .int dep k], []⟩) (fun _ R s => R (.ok (.ret (.bool true))) s) := by
  refine .of_wp fun prog w A R s h => ?_
  unfold Builtin.«issubclass.nested»
  refine wpAny_bind (wpAny_of_eq typeOf_tstr ?_)
  rw [if_pos (by decide)]
  refine wpAny_bind (wpAny_of_eq (a := true) (by kernel_rfl) ?_)
  exact wpAny_pure ⟨_, rfl, h⟩
theorem sub_tup : isSubtype (.type "tuple") (.type "tuple") = pure true := by rw [isSubtype_type]; kernel_rfl
theorem issub_tup {t : Addr} {n : Nat} {k : Tok} : Meets (Builtin.«issubclass.nested» ⟨[.type "str", .ref t, .int 0 k], []⟩) (fun _ R s => s.heap.get? t = some (tupO [.type "str", .type "bytes"] n) ∧ R (.ok (.ret (.bool true))) s) := by
  refine .of_wp fun prog w A R s h => ?_
  have hT : s.TypeIs (.ref t) "tuple" := ⟨_, h.1, rfl⟩
  unfold Builtin.«issubclass.nested»
  refine wpAny_bind (wpAny_typeOf hT ?_)
  rw [if_neg (by decide)]
  unfold Builtins.unionMembers
  refine wpAny_bind (wpAny_bind (wpAny_typeOf hT ?_))
  rw [if_neg (by decide)]
  refine wpAny_pure ?_
  refine wpAny_bind (wpAny_isInstance hT sub_tup ?_)
  rw [if_pos rfl]
  dsimp only
  rw [if_neg (by decide)]
  refine wpAny_bind (wpAny_seqItems h.1 rfl ?_)
  refine wpAny_bind ?_
  simp only [Option.getD_some, List.forIn_toArray, List.forIn_cons]
  refine wpAny_bind ?_
  refine wpAny_bind (call_function_meets kind_issubN plain_issubN entry_issubN (args_issubN _ _ _) issub_str ?_)
  refine wpAny_bind (wpAny_truthy_bool ?_)
  rw [if_pos rfl]
  exact wpAny_bind (wpAny_pure (wpAny_pure (wpAny_pure (wpAny_pure ⟨_, rfl, h.2⟩))))
theorem call_issub {t : Addr} {n : Nat} {Q : Value → Shared → Prop} (ht : s.heap.get? t = some (tupO [.type "str", .type "bytes"] n)) (h : Q (.bool true) s) :
    wpAny (model prog w) A (call (.builtin "issubclass") [.type "str", .ref t]) Q E s :=
  call_function_meets kind_issub plain_issub entry_issub (args_issub _ _) (MeetsSeq.meets_again (id' := "issubclass.nested") rfl plain_issubN entry_issubN issub_tup) ⟨ht, h⟩
end

section
variable {c : Cx} {A : Around} {s : Shared} {d : List (Str × LV)} {o : List (Addr × OV)} {fa : Str → Addr} {mg mb : Str → Option Value}

theorem EvP.typeOf {np pos : Pos} {e : Expr} {x : Str} (T : Tp fa mg mb c.g) (H : EvP c A s d o e (.p (.str x))) (hk : c.env.scope.kind = .function := by rfl) (hx : c.env.kindOf "type" = some .globalImplicit := by rfl)
    (hgl : c.env.globals = mainGlobals := by rfl) (hbl : c.env.builtins = builtinsNs := by rfl) (he : starEach [e] c.env = [(false, eval e c.env)] := by rfl) : EvP c A s d o (.Call (.Name "type" np) [e] [] pos) (.val (.type "str")) := by
  intro ts h tk Q E C kk
  have T1 := C.tp T
  have hm : (("type" : Str), Value.type "type") ∈ bltTable := by first | with_reducible exact mBa | with_reducible exact mBb | with_reducible exact mBc | with_reducible exact mBd | with_reducible exact mBe | with_reducible exact mBf | with_reducible exact mBg | with_reducible exact mBh | with_reducible exact mBi | with_reducible exact mBj | with_reducible exact mBk | with_reducible exact mBl | with_reducible exact mBm | with_reducible exact mBn
  refine Call_ (wp_blt (hgl ▸ T1.G) (T1.bt _ hm).1 (hbl ▸ T1.B) (T1.bt _ hm).2 ?_ hk hx)
  refine callWith_type1 (args_cons (H _ _ _ _ _ C fun u h1 t1 C1 => args_nil ?_) he) he
  obtain ⟨X, m, cm, CI⟩ := C1
  obtain ⟨t, rfl⟩ := denT_str (CI.rd (v := u) (p := .str x) .pd (by simp))
  exact call_type_of (typeIs_str _ _ _) (by decide) (kk _ _ _ ⟨X, m, cm, (CI.sub_ts fun q hq => List.mem_cons_of_mem _ hq).push rfl⟩)

/-- issubclass(kind, (str, bytes)) -/
theorem TsP.issub {np p1 p2 pos tp : Pos} {k : Nat} {e : Expr} (T : Tp fa mg mb c.g) (H : EvP c A s d o e (.val (.type "str"))) (hk : c.env.scope.kind = .function := by rfl) (hx : c.env.kindOf "issubclass" = some .globalImplicit := by rfl)
    (hx1 : c.env.kindOf "str" = some .globalImplicit := by rfl) (hx2 : c.env.kindOf "bytes" = some .globalImplicit := by rfl)
    (hgl : c.env.globals = mainGlobals := by rfl) (hbl : c.env.builtins = builtinsNs := by rfl)
    (he : starEach [e, .Tuple [.Name "str" p1, .Name "bytes" p2] k tp] c.env = [(false, eval e c.env), (false, eval (.Tuple [.Name "str" p1, .Name "bytes" p2] k tp) c.env)] := by rfl)
    (he2 : starEach [.Tuple [.Name "str" p1, .Name "bytes" p2] k tp] c.env = [(false, eval (.Tuple [.Name "str" p1, .Name "bytes" p2] k tp) c.env)] := by rfl) :
    TsP c A s d o (.Call (.Name "issubclass" np) [e, .Tuple [.Name "str" p1, .Name "bytes" p2] k tp] [] pos) true := by
  intro ts h tk Q E C kk
  have m1 : (("issubclass" : Str), Value.builtin "issubclass") ∈ bltTable := by first | with_reducible exact mBa | with_reducible exact mBb | with_reducible exact mBc | with_reducible exact mBd | with_reducible exact mBe | with_reducible exact mBf | with_reducible exact mBg | with_reducible exact mBh | with_reducible exact mBi | with_reducible exact mBj | with_reducible exact mBk | with_reducible exact mBl | with_reducible exact mBm | with_reducible exact mBn
  have m2 : (("str" : Str), Value.type "str") ∈ bltTable := by first | with_reducible exact mBa | with_reducible exact mBb | with_reducible exact mBc | with_reducible exact mBd | with_reducible exact mBe | with_reducible exact mBf | with_reducible exact mBg | with_reducible exact mBh | with_reducible exact mBi | with_reducible exact mBj | with_reducible exact mBk | with_reducible exact mBl | with_reducible exact mBm | with_reducible exact mBn
  have m3 : (("bytes" : Str), Value.type "bytes") ∈ bltTable := by first | with_reducible exact mBa | with_reducible exact mBb | with_reducible exact mBc | with_reducible exact mBd | with_reducible exact mBe | with_reducible exact mBf | with_reducible exact mBg | with_reducible exact mBh | with_reducible exact mBi | with_reducible exact mBj | with_reducible exact mBk | with_reducible exact mBl | with_reducible exact mBm | with_reducible exact mBn
  refine isTrue_plain ?_
  have T1 := C.tp T
  refine Call_ (wp_blt (hgl ▸ T1.G) (T1.bt _ m1).1 (hbl ▸ T1.B) (T1.bt _ m1).2 ?_ hk hx)
  refine callWith_builtin1 (args_cons (H _ _ _ _ _ C fun u h1 t1 C1 => args_cons ?_ he2) (by rw [he, he2])) (by rw [he, he2]) (by rw [he2]; rfl)
  have T2 := C1.tp T
  refine wpAny_Tuple (args_cons (wp_blt (hgl ▸ T2.G) (T2.bt _ m2).1 (hbl ▸ T2.B) (T2.bt _ m2).2 ?_ hk hx1) rfl)
  refine args_cons (wp_blt (hgl ▸ T2.G) (T2.bt _ m3).1 (hbl ▸ T2.B) (T2.bt _ m3).2 ?_ hk hx2) rfl
  refine args_nil ⟨by decide, args_nil ?_⟩
  obtain ⟨X, m, cm, CI⟩ := C1
  have hu : u = .type "str" := CI.tmps (u, .val (.type "str")) (by simp)
  subst hu
  refine call_issub (t := h1.objs.size) (n := 0) (Heap.get?_push_size _ rfl) (wpAny_truthy_bool (kk _ _ ⟨X, m, cm, ((CI.sub_ts fun q hq => List.mem_cons_of_mem _ hq).ext gr_push)⟩))

/-- isinstance(p, bytes) of a text -/
theorem TsP.isby {np p1 pos : Pos} {e : Expr} {x : Str} (T : Tp fa mg mb c.g) (H : EvP c A s d o e (.p (.str x))) (hk : c.env.scope.kind = .function := by rfl) (hx : c.env.kindOf "isinstance" = some .globalImplicit := by rfl)
    (hx2 : c.env.kindOf "bytes" = some .globalImplicit := by rfl) (hgl : c.env.globals = mainGlobals := by rfl) (hbl : c.env.builtins = builtinsNs := by rfl)
    (he : starEach [e, .Name "bytes" p1] c.env = [(false, eval e c.env), (false, eval (.Name "bytes" p1) c.env)] := by rfl) (he2 : starEach [.Name "bytes" p1] c.env = [(false, eval (.Name "bytes" p1) c.env)] := by rfl) :
    TsP c A s d o (.Call (.Name "isinstance" np) [e, .Name "bytes" p1] [] pos) false := by
  intro ts h tk Q E C kk
  have m1 : (("isinstance" : Str), Value.builtin "isinstance") ∈ bltTable := by first | with_reducible exact mBa | with_reducible exact mBb | with_reducible exact mBc | with_reducible exact mBd | with_reducible exact mBe | with_reducible exact mBf | with_reducible exact mBg | with_reducible exact mBh | with_reducible exact mBi | with_reducible exact mBj | with_reducible exact mBk | with_reducible exact mBl | with_reducible exact mBm | with_reducible exact mBn
  have m3 : (("bytes" : Str), Value.type "bytes") ∈ bltTable := by first | with_reducible exact mBa | with_reducible exact mBb | with_reducible exact mBc | with_reducible exact mBd | with_reducible exact mBe | with_reducible exact mBf | with_reducible exact mBg | with_reducible exact mBh | with_reducible exact mBi | with_reducible exact mBj | with_reducible exact mBk | with_reducible exact mBl | with_reducible exact mBm | with_reducible exact mBn
  refine isTrue_plain ?_
  have T1 := C.tp T
  refine Call_ (wp_blt (hgl ▸ T1.G) (T1.bt _ m1).1 (hbl ▸ T1.B) (T1.bt _ m1).2 ?_ hk hx)
  refine callWith_builtin1 (args_cons (H _ _ _ _ _ C fun u h1 t1 C1 => args_cons ?_ he2) (by rw [he, he2])) (by rw [he, he2]) (by rw [he2]; rfl)
  have T2 := C1.tp T
  refine wp_blt (hgl ▸ T2.G) (T2.bt _ m3).1 (hbl ▸ T2.B) (T2.bt _ m3).2 (args_nil ?_) hk hx2
  obtain ⟨X, m, cm, CI⟩ := C1
  obtain ⟨t, rfl⟩ := denT_str (CI.rd (v := u) (p := .str x) .pd (by simp))
  refine call_isinstance (isinstance_false_str (by decide) (by kernel_rfl) (by rw [isSubtype_type]; kernel_rfl)) (wpAny_truthy_bool (kk _ _ ⟨X, m, cm, (CI.sub_ts fun q hq => List.mem_cons_of_mem _ hq)⟩))
end
end Mine
end

section
open PySem PySem.W PyProof.Rows PySem.Calls
set_option linter.unusedVariables false
set_option maxRecDepth 100000
namespace Mine

section
variable {prog : Program} {w : World} {fa : Str → Addr} {mg mb : Str → Option Value}

theorem fspath_ok {x : Str} : FnC prog w fa mg mb 2 "fspath" (.p (.str x)) (· = .p (.str x)) := by
  refine FnC.of1 (i := 16) (x := "path") (by first | with_reducible exact mFa | with_reducible exact mFb | with_reducible exact mFc | with_reducible exact mFd | with_reducible exact mFe | with_reducible exact mFf | with_reducible exact mFg | with_reducible exact mFh | with_reducible exact mFi | with_reducible exact mFj | with_reducible exact mFk) (fun _ _ _ _ _ _ _ => rfl) rfl fun kV doc pm an cd ct L g X A s hA hh T => ?_
  refine Exs.set (EvP.typeOf T .loc) ?_
  refine Exs.ite (TsP.issub T .loc) (fun _ => ?_) (fun h => nomatch h)
  exact Exs.retP .loc fun v h tk C => RetQ.of C rfl
end
end Mine
end

section
open PySem PySem.W PyProof.Rows PySem.Calls
open PySem.Builtin PySem.Builtin.Str
set_option linter.unusedVariables false
set_option maxRecDepth 100000
namespace Mine

theorem TsP.cast {c : Cx} {A : Around} {s : Shared} {d : List (Str × LV)} {o : List (Addr × OV)} {e : Expr} {b b' : Bool} (H : TsP c A s d o e b) (h : b = b') : TsP c A s d o e b' := h ▸ H
theorem EvP.cast {c : Cx} {A : Around} {s : Shared} {d : List (Str × LV)} {o : List (Addr × OV)} {e : Expr} {b b' : LV} (H : EvP c A s d o e b) (h : b = b') : EvP c A s d o e b' := h ▸ H
theorem EvP.call1 {c : Cx} {A : Around} {s : Shared} {d : List (Str × LV)} {o : List (Addr × OV)} {fa : Str → Addr} {mg mb : Str → Option Value} {f : Str} {i k : Nat} {np pos : Pos} {e : Expr} {p r : LV} (T : Tp fa mg mb c.g) (hA : Room k A) (hh : A.handled = none) (hF : FnC c.prog c.w fa mg mb k f p (· = r)) (H : EvP c A s d o e p)
    (hm : (f, i) ∈ fnTable := by exact mFx rfl) (hk : c.env.scope.kind = .function := by rfl) (hx : c.env.kindOf f = some .globalImplicit := by rfl) (hn : (f == ("__debug__" : Str)) = false := by decide) (hgl : c.env.globals = mainGlobals := by rfl)
    (he : starEach [e] c.env = [(false, eval e c.env)] := by rfl) : EvP c A s d o (.Call (.Name f np) [e] [] pos) r :=
  EvP.ofEv (Ev.call T hA hh hm hF H hk hx hn hgl he) fun l o' h => ⟨h.1, h.2⟩

noncomputable abbrev slash : Str := Str.ofString "/"
theorem EvP.sm1 {c : Cx} {A : Around} {s : Shared} {d : List (Str × LV)} {o : List (Addr × OV)} {ov e : Expr} {name : Str} {apos pos : Pos} {x : Str} {l1 : LV} {q r : PyData} {id : String} {pl : Sem Bool} (hA : Room 1 A) (H : EvP c A s d o ov (.p (.str x))) (H1 : EvP c A s d o e l1) (r1 : Rd o l1 q)
    (slot : Slot "str" name id) (hty : PySem.typeOf (.builtin id) = pure (.type "method_descriptor")) (hop : Op2 A (fun u v => call (.builtin id) [u, v]) (.str x) q r)
    (hm : eval (.Call (.Attribute ov name apos) [e] [] pos) c.env = (do
      let v ← eval ov c.env
      standAt apos.atName
      let (f, first) ← holding [v] (getMethod v name pl)
      callWith pos f first (backTo pos (starEach [e] c.env)) []) := by rfl)
    (he : starEach [e] c.env = [(false, eval e c.env)] := by rfl) : EvP c A s d o (.Call (.Attribute ov name apos) [e] [] pos) (.p r) :=
  EvP.meth1 hA H H1 .pd r1 (fun h X v s tk e => by
    obtain ⟨t, rfl⟩ := denT_str e
    exact ⟨typeIs_str _ _ _, fun a q => nomatch q⟩) F.plainAttrs_str slot hty hop hm he
theorem line_of {n : Nat} (h : n ≤ 1000) : n ≤ sizeLine := Nat.le_trans h (by decide)

section
variable {prog : Program} {w : World} {fa : Str → Addr} {mg mb : Str → Option Value}

theorem getsep_ok {x : Str} : FnC prog w fa mg mb 2 "_get_sep" (.p (.str x)) (· = .p (.str slash)) := by
  refine FnC.of1 (i := 7) (x := "path") (by first | with_reducible exact mFa | with_reducible exact mFb | with_reducible exact mFc | with_reducible exact mFd | with_reducible exact mFe | with_reducible exact mFf | with_reducible exact mFg | with_reducible exact mFh | with_reducible exact mFi | with_reducible exact mFj | with_reducible exact mFk) (fun _ _ _ _ _ _ _ => rfl) rfl fun kV doc pm an cd ct L g X A s hA hh T => ?_
  refine Exs.ite (TsP.isby T .loc) (fun h => nomatch h) (fun _ => ?_)
  exact Exs.retP .cstr fun v h tk C => RetQ.of C rfl

/-- what dirname makes of a text -/
noncomputable def rfV (x : Str) : Nat := match lastOccurrence x slash 0 x.length with | some i => i + 1 | none => 0
theorem rfV_eq (x : Str) : Txt.rfind x slash + 1 = (rfV x : Int) := by
  unfold Txt.rfind rfV
  cases lastOccurrence x slash 0 x.length <;> simp
noncomputable def headV (x : Str) : Str := T (x.cps.toList.take (rfV x))
noncomputable def repV (n : Nat) : Str := ⟨(List.replicate n slash.cps).foldl (· ++ ·) #[]⟩
noncomputable def dirV (x : Str) : Str := if (decide ((headV x).length ≠ 0) && !(headV x == repV (headV x).length)) = true then Txt.rstripChars (headV x) slash else headV x
theorem headV_len (x : Str) : (headV x).length ≤ x.length := by
  unfold headV
  rw [T_len, List.length_take]
  have : x.cps.toList.length = x.length := by simp [Str.length]
  lia  
theorem sl_upto_str {A : Around} {x : Str} (b : Nat) (hz : x.length ≤ sizeLine) : SlOp A (.str x) none (some (b : Int)) none (.str (T (x.cps.toList.take b))) := by
  have h := sl_str (A := A) (x := x) none (some b) hz
  have e : (x.cps.toList.drop (cutLo x.length none)).take (cutHi x.length (some b) - cutLo x.length none) = x.cps.toList.take b := by
    simp only [cutLo, cutHi, List.drop_zero, Nat.sub_zero]
    have hlen : x.cps.toList.length = x.length := by simp [Str.length]
    by_cases hb : b ≤ x.length
    · rw [Nat.min_eq_left hb]
    · rw [Nat.min_eq_right (by lia  ), List.take_of_length_le (by lia  ), List.take_of_length_le (by lia  )]
  rw [e] at h
  exact h
theorem dirname_ok {x : Str} (hz : x.length ≤ 1000) : FnC prog w fa mg mb 3 "dirname" (.p (.str x)) (· = .p (.str (dirV x))) := by
  refine FnC.of1 (i := 19) (x := "p") (by first | with_reducible exact mFa | with_reducible exact mFb | with_reducible exact mFc | with_reducible exact mFd | with_reducible exact mFe | with_reducible exact mFf | with_reducible exact mFg | with_reducible exact mFh | with_reducible exact mFi | with_reducible exact mFj | with_reducible exact mFk) (fun _ _ _ _ _ _ _ => rfl) rfl fun kV doc pm an cd ct L g X A s hA hh T => ?_
  have hA1 : Room 1 A := hA.le (by lia  )
  have hhz := headV_len x
  refine Exs.set (EvP.call1 (i := 16) T hA hh fspath_ok .loc) ?_
  refine Exs.set (EvP.call1 (i := 7) T hA hh getsep_ok .loc) ?_
  refine Exs.set (EvP.bin hA1 (EvP.sm1 hA1 .loc .loc .pd F.slot_str_rfind F.type_str_rfind op_rfind) .cint .pd .pd op_add_int) ?_
  rw [rfV_eq]
  refine Exs.set (EvP.slice hA1 .loc .none (.some .loc) .none .pd HasGet.str (sl_upto_str _ (line_of hz))) ?_
  change Exs _ A s ((_, .p (.str (headV x))) :: _) [] [] _ _ _
  refine Exs.ite (TsP.and (TsP.val hA1 .loc .pd (tr_str (line_of (by lia  )))) fun _ => TsP.and (TsP.cmp hA1 .loc (.bin hA1 .loc (EvP.blt1 T hA1 (by first | with_reducible exact mBa | with_reducible exact mBb | with_reducible exact mBc | with_reducible exact mBd | with_reducible exact mBe | with_reducible exact mBf | with_reducible exact mBg | with_reducible exact mBh | with_reducible exact mBi | with_reducible exact mBj | with_reducible exact mBk | with_reducible exact mBl | with_reducible exact mBm | with_reducible exact mBn) .loc .pd (op_len_str (line_of (by lia  )))) .pd .pd (op_mul_str (by lia  ) (by lia  ) (by decide))) .pd .pd op_ne_str) fun _ => TsP.and0) (fun h => ?_) (fun h => ?_)
  · refine Exs.set (EvP.sm1 hA1 .loc .loc .pd F.slot_str_rstrip F.type_str_rstrip (op_rstrip (line_of (by lia  )))) ?_
    refine Exs.nilS ?_
    refine Exs.retP .loc fun v h' tk C => RetQ.of C ?_
    rw [Bool.and_true] at h
    unfold dirV; rw [if_pos (by simpa [repV] using h)]
  · refine Exs.nilS ?_
    refine Exs.retP .loc fun v h' tk C => RetQ.of C ?_
    rw [Bool.and_true] at h
    unfold dirV; rw [if_neg (by simpa [repV] using h)]
end
end Mine
end

section
open PySem PySem.W PyProof.Rows PySem.Calls
open PySem.Builtin PySem.Builtin.Str
set_option linter.unusedVariables false
set_option maxRecDepth 100000
namespace Mine
theorem list3 {α : Type} {vs : List α} (h : vs.length = 3) : ∃ a b e, vs = [a, b, e] := by
  rcases vs with _ | ⟨a, _ | ⟨b, _ | ⟨e, _ | ⟨x, r⟩⟩⟩⟩
  · cases h
  · cases h
  · cases h
  · exact ⟨a, b, e, rfl⟩
  · simp at h

-- split, join, index
theorem den_strsFrom {h : Heap} {X : AP} : ∀ (xs : List Str) (tk : Nat), DenAll h X (xs.map .str) (strsFrom tk xs)
  | [], _ => .nil
  | x :: r, tk => .cons den_str (den_strsFrom r (tk + 1))
theorem join_count {y : Str} (hy : y.length = 1) : ∀ ps : List Str, ps.length ≤ (Str.join y ps).length + 1
  | [] => by simp
  | [a] => by simp
  | a :: b :: r => by
    have ih := join_count hy (b :: r)
    have e : Str.join y (a :: b :: r) = a ++ y ++ Str.join y (b :: r) := rfl
    rw [e, Str.length_append, Str.length_append, hy]
    simp only [List.length_cons] at ih ⊢
    lia  
theorem split_count (x : Str) : (Txt.split x slash).length ≤ x.length + 1 := by
  have := join_count (y := slash) (by decide) (Txt.split x slash)
  rwa [StrLaws.join_split] at this
section
variable {A : Around}
theorem op_split {x : Str} (hz : x.length ≤ 1000) : Op2 A (fun u v => call (.builtin "str.split") [u, v]) (.str x) (.str slash) (SL (Txt.split x slash)) := by
  intro prog w s h tk X u v Q E hA hX h1 h2 k
  obtain ⟨t, rfl⟩ := denT_str h1; obtain ⟨t', rfl⟩ := denT_str h2
  have hc := split_count x
  by_cases c1 : (decide (x.length < slash.length) || decide (strKind x < strKind slash)) = true
  · have e : Txt.split x slash = [x] := by unfold Txt.split; rw [if_pos c1]
    rw [e] at k
    exact call_meets F.slot_str_split (typeIs_str _ _ _) F.entry_str_split (F.args_str_split_2 _ _) (meets_str_split_cannot_occur x slash t t' c1) (k _ _ _ gr_push (den_newList hX (.one den_str)))
  · have c1' := Bool.eq_false_iff.mpr c1
    by_cases c2 : (occurrences x slash 0 x.length (x.length + 1)).isEmpty = true
    · have e : Txt.split x slash = [x] := by unfold Txt.split; rw [if_neg c1, if_pos c2]
      rw [e] at k
      exact call_meets F.slot_str_split (typeIs_str _ _ _) F.entry_str_split (F.args_str_split_2 _ _) (meets_str_split_not_found x slash t t' c1' (by decide) c2) (k _ _ _ gr_push (den_newList hX (.one den_str)))
    · have e : Txt.split x slash = partsBetween x (occurrences x slash 0 x.length (x.length + 1)) slash.length := by unfold Txt.split; rw [if_neg c1, if_neg c2]
      rw [e] at k hc
      exact call_meets F.slot_str_split (typeIs_str _ _ _) F.entry_str_split (F.args_str_split_2 _ _) (meets_str_split_sep x slash t t' c1' (by decide) (Bool.eq_false_iff.mpr c2) (line_of hz) (Nat.le_trans hc (Nat.le_trans (Nat.succ_le_succ hz) (by decide))))
        (k _ _ _ gr_push (den_newList hX (den_strsFrom _ _)))
theorem strValues_of {h : Heap} {X : AP} : ∀ {xs : List Str} {vs : List Value}, DenAll h X (xs.map .str) vs → ∃ l : List (Str × Tok), vs = strValues l ∧ l.map (·.1) = xs
  | [], _, e => by unfold DenAll at e; simp at e; subst e; exact ⟨[], rfl, rfl⟩
  | y :: ys, _, e => by
    simp only [List.map_cons] at e
    unfold DenAll at e
    obtain ⟨v, r, rfl, h1, h2⟩ := e
    unfold Den at h1
    obtain ⟨t, rfl⟩ := h1
    obtain ⟨l, rfl, rfl⟩ := strValues_of h2
    exact ⟨(y, t) :: l, rfl, rfl⟩
theorem op_join {y : Str} {xs : List Str} (hz : JoinOk y xs = true) : Op2 A (fun u v => call (.builtin "str.join") [u, v]) (.str y) (SL xs) (.str (Str.join y xs)) := by
  intro prog w s h tk X u v Q E hA hX h1 h2 k
  obtain ⟨t, rfl⟩ := denT_str h1; obtain ⟨b, us, m, rfl, ho', hd'⟩ := denT_list h2
  obtain ⟨l, rfl, rfl⟩ := strValues_of hd'
  refine SC.join ⟨_, ho', rfl, m, rfl⟩ rfl hz fun t' tk' => ?_
  have e : Txt.join y (l.map (·.1)) = Str.join y (l.map (·.1)) := StrLaws.glued_eq_join _ _
  rw [e]
  exact k _ h _ gr_refl den_str
theorem op_index {x : Str} {xs : List Str} (hx : x ∈ xs) (hz : xs.length ≤ 1000) : Op2 A (fun u v => call (.builtin "list.index") [u, v]) (SL xs) (.str x) (.int (xs.idxOf x : Nat)) := by
  intro prog w s h tk X u v Q E hA hX h1 h2 k
  obtain ⟨t, rfl⟩ := denT_str h2; obtain ⟨b, us, m, rfl, ho', hd'⟩ := denT_list h1
  have hl : us.length = xs.length := by rw [hd'.length]; simp
  have hj : xs.idxOf x < xs.length := List.idxOf_lt_length_iff.mpr hx
  have hat : ∀ (j : Nat) (h1 : j < us.length) (h2 : j < xs.length), (strOfV us[j] == some x) = (xs[j] == x) := fun j h1 h2 => by
    obtain ⟨y, t', hy, e2⟩ := den_at_str hd' (i := j) (v := us[j]) (by simp [h1])
    rw [e2]
    have : xs[j] = y := by simpa [h2] using hy
    rw [this]; rfl
  refine call_meets PySem.F.slot_list_index ⟨_, ho', rfl⟩ PySem.F.entry_list_index (PySem.F.args_list_index_2 _ _)
    (PySem.SeqAt.list_indexAt b us.toArray m none #[] (.str x t) (fun v => strOfV v == some x) (xs.idxOf x) (by simpa [hl] using hj) (by lia  ) ?_ ?_) ⟨ho', eqg_strs hd', k _ h _ gr_refl den_int⟩
  · show (strOfV us[xs.idxOf x] == some x) = true
    rw [hat _ (by lia  ) hj]
    simpa using List.getElem_idxOf hj
  · intro j hjs hlt
    show (strOfV us[j] == some x) = false
    have hj2 : j < us.length := by simpa using hjs
    rw [hat _ hj2 (by lia  )]
    have := List.not_of_lt_findIdx (xs := xs) (p := (· == x)) (i := j) hlt
    simpa using this
end

section
variable {c : Cx} {A : Around} {s : Shared} {d : List (Str × LV)} {o : List (Addr × OV)} {ts : List (Value × LV)} {Q : Flow → Shared → Prop} {E : Value → Shared → Prop} {fa : Str → Addr} {mg mb : Str → Option Value}
/-- the first side of an 'or' -/
theorem EvP.or1 {a b : Expr} {pos : Pos} {l0 : LV} {p : PyData} (hA : Room 1 A) (H1 : EvP c A s d o a l0) (r : Rd o l0 p) (t : Tr A p true) : EvP c A s d o (.BoolOp .Or [a, b] pos) l0 := by
  intro ts h tk Q E C k
  refine BoolOp_or (H1 _ _ _ _ _ C fun u h1 t1 C1 => ?_)
  have C1' := C1
  obtain ⟨X, m, cm, C1⟩ := C1
  exact t _ _ _ _ _ _ _ _ _ hA (C1.rd r (by simp)) fun t1' => k _ _ _ (C1'.ext fun _ _ e => e)

/-- xs.pop() on a list of the frame's own -/
theorem Exs.pop {ov : Expr} {apos cpos pos : Pos} {rest : List Stmt} {a : Addr} {xs : List Str} {o' : List (Addr × OV)} {pl : Sem Bool} (H : EvP c A s d o ov (.at a)) (u : OUp a (.lst (xs.map .str)) (.lst (xs.dropLast.map .str)) o o')
    (hz : xs.length ≤ sizeLine) (hne : xs ≠ []) (k : Exs c A s d o' ts rest Q E)
    (hm : eval (.Call (.Attribute ov (Str.ofString "pop") apos) [] [] cpos) c.env = (do
      let v ← eval ov c.env
      standAt apos.atName
      let (f, first) ← holding [v] (getMethod v (Str.ofString "pop") pl)
      callWith cpos f first (backTo cpos (starEach [] c.env)) []) := by rfl)
    (hi : interactive c.env = false := by rfl) (hs : swapsWith (.Call (.Attribute ov (Str.ofString "pop") apos) [] [] cpos) none pos.line c.env = pure false := by rfl) :
    Exs c A s d o ts (.Expr (.Call (.Attribute ov (Str.ofString "pop") apos) [] [] cpos) pos :: rest) Q E := by
  refine .cons fun h tk C => wpAny_Expr (MethodCall_ (pl := pl) (H _ _ _ _ _ C fun v h1 t1 C1 => ?_) hm) hi hs
  obtain ⟨X, m, cm, C1⟩ := C1
  have e1 : v = .ref a := C1.tmps (v, .at a) (by simp)
  subst e1
  obtain ⟨vs, n, e2, D2⟩ := (C1.owns _ u.mem).1
  have hl : vs.length = xs.length := by rw [D2.length, List.length_map]
  have hpos : 0 < vs.length := by rw [hl]; exact List.length_pos_iff.mpr hne
  refine getMethod_builtin ⟨_, e2, rfl⟩ F.plainAttrs_list F.slot_list_pop F.type_list_pop (fun b q => by cases q; exact ⟨_, e2, rfl⟩) ?_
  refine callWith_method0 ?_
  have e4 : vs.toArray.size - 1 = vs.length - 1 := by simp
  obtain ⟨y, t', hy, hv'⟩ := den_at_str D2 (i := vs.length - 1) (v := vs[vs.length - 1]'(by lia  )) (by simp)
  have hv : vs[vs.length - 1]? = some (Value.str y t') := by rw [← hv']; simp
  refine call_meets F.slot_list_pop ⟨_, e2, rfl⟩ F.entry_list_pop (F.args_list_pop_1 _) (MeetsSeq.list_pop_last a vs.toArray n (.str y t') (by simpa using hv) (by simp; lia  )) ⟨e2, ?_⟩
  refine k _ _ ⟨X, m, cm, (C1.up u (Heap.SameBut.update h1 a _) ?_).sub_ts fun q hq => List.mem_cons_of_mem _ hq⟩
  have e3 := Heap.get?_update_self (Obj.mapSeq fun xs => xs.eraseIdxIfInBounds (vs.toArray.size - 1)) e2 (by rw [mapSeq_erase _ _ _ (by simp; lia  )]; rfl)
  rw [mapSeq_erase _ _ _ (by simp; lia  )] at e3
  have hd : vs.eraseIdx (vs.length - 1) = vs.dropLast := by
    rw [List.dropLast_eq_take, List.eraseIdx_eq_take_drop_succ]
    have : vs.length - 1 + 1 = vs.length := by lia  
    rw [this]; simp
  refine ⟨vs.dropLast, n + 1, ?_, ?_⟩
  · rw [e3, e4]; simp [listO, hd]
  · have D3 : DenAll h1 X (xs.dropLast.map .str) vs.dropLast := by
      rw [List.dropLast_eq_take, List.dropLast_eq_take, hl, List.map_take]
      exact D2.take _
    exact D3.mono (.but (Heap.SameBut.update ..) (C1.owns _ u.mem).2.1)

/-- several names from a tuple -/
theorem Exs.unp {es : List Expr} {kk : Nat} {tp pos : Pos} {e : Expr} {rest : List Stmt} {ps : List PyData} {d' : List (Str × LV)} (hh : A.handled = none) (H : EvP c A s d o e (.p (.tuple ps)))
    (hn : (assignEach es c.env).length = ps.length) (hstar : (assignEach es c.env).findIdx? (·.1) = none)
    (tg : ∀ (vs : List Value) (h : Heap) (tk : Nat) (Q : Unit → Shared → Prop), vs.length = ps.length → Cfg c d o (vs.zip (ps.map .p) ++ ts) h → (∀ h' tk', Cfg c d' o ts h' → Q () (St s h' tk')) → wpAny (model c.prog c.w) A (assignInOrder ((assignEach es c.env).map (·.2)) vs) Q E (St s h tk))
    (k : Exs c A s d' o ts rest Q E)
    (hs : swapsWithSole [.Tuple es kk tp] e pos.line c.env = pure false := by rfl) (hw : swappedStores [.Tuple es kk tp] e c.env = pure none := by rfl) (he : (assignEach [.Tuple es kk tp] c.env).map (·.2) = [assign (.Tuple es kk tp) c.env] := by rfl) :
    Exs c A s d o ts (.Assign [.Tuple es kk tp] e pos :: rest) Q E := by
  refine .cons fun h tk C => wpAny_Assign_stores (H _ _ _ _ _ C fun v h1 t1 C1 => ?_) hs hw
  rw [he]
  show wpAny _ A (assign (.Tuple es kk tp) c.env v) _ E _
  obtain ⟨X, m, cm, C1⟩ := C1
  obtain ⟨a, vs, n, rfl, ho, hd⟩ := denT_tuple (C1.rd (p := .tuple ps) (v := v) .pd (by simp))
  have hl := hd.length
  refine assign_Tuple_tuple (items := vs.toArray) hh ⟨_, ho, rfl, n, rfl⟩ (by rw [hn]; simp [hl]) hstar fun h' he => ?_
  have C2 : CfgI c X m cm d o ((.ref a, .p (.tuple ps)) :: ts) h' := C1.ext fun b ob e => he b ob (Nat.ne_of_lt (Heap.lt_size e)) e
  have C3 : Cfg c d o (vs.zip (ps.map .p) ++ ts) h' := ⟨X, m, cm, C2.withTs fun q hq => (List.mem_append.mp hq).elim (fun r => (DenAll.zip (P := .p) (fun _ _ _ e => e) (hd.mono (.ext fun b ob e => he b ob (Nat.ne_of_lt (Heap.lt_size e)) e))) q r) fun r => C2.tmps q (List.mem_cons_of_mem _ r)⟩
  exact tg vs h' t1 _ hl C3 fun h2 t2 C4 => k h2 t2 C4
end
end Mine
end

section
open PySem PySem.W PyProof.Rows PySem.Calls
open PySem.Builtin PySem.Builtin.Str
set_option linter.unusedVariables false
set_option maxRecDepth 100000
namespace Mine
section
variable {prog : Program} {w : World} {fa : Str → Addr} {mg mb : Str → Option Value}

/-- a cut of a text -/
noncomputable def cut (x : Str) (lo hi : Option Nat) : Str := T ((x.cps.toList.drop (cutLo x.length lo)).take (cutHi x.length hi - cutLo x.length lo))
noncomputable def srV (x : Str) : List PyData :=
  if (!(cut x none (some 1) == slash)) = true then [.str "", .str "", .str x]
  else if (!(cut x (some 1) (some 2) == slash) || cut x (some 2) (some 3) == slash) = true then [.str "", .str slash, .str (cut x (some 1) none)]
  else [.str "", .str (cut x none (some 2)), .str (cut x (some 2) none)]
theorem splitroot_ok {x : Str} (hz : x.length ≤ 1000) : FnC prog w fa mg mb 3 "splitroot" (.p (.str x)) (· = .p (.tuple (srV x))) := by
  refine FnC.of1 (i := 18) (x := "p") (by first | with_reducible exact mFa | with_reducible exact mFb | with_reducible exact mFc | with_reducible exact mFd | with_reducible exact mFe | with_reducible exact mFf | with_reducible exact mFg | with_reducible exact mFh | with_reducible exact mFi | with_reducible exact mFj | with_reducible exact mFk) (fun _ _ _ _ _ _ _ => rfl) rfl fun kV doc pm an cd ct L g X A s hA hh T => ?_
  have hA1 : Room 1 A := hA.le (by lia  )
  refine Exs.set (EvP.call1 (i := 16) T hA hh fspath_ok .loc) ?_
  refine Exs.ite (TsP.isby T .loc) (fun h => nomatch h) (fun _ => ?_)
  refine Exs.set .cstr (Exs.set .cstr (Exs.nilS ?_))
  refine Exs.ite (TsP.cmp hA1 (.slice hA1 .loc .none (.some .cint) .none .pd HasGet.str (sl_str none (some 1) (line_of hz))) .loc .pd .pd op_ne_str) (fun h0 => ?_) (fun h0 => ?_)
  · refine Exs.retP (EvP.tup (ps := [.str "", .str "", .str x]) (.cons .loc (.cons .loc (.cons .loc .nil))) (line_of (by simp))) fun v hh tk C => RetQ.of C ?_
    unfold srV; rw [if_pos (by exact h0)]
  · refine Exs.ite (TsP.or (TsP.cmp hA1 (.slice hA1 .loc (.some .cint) (.some .cint) .none .pd HasGet.str (sl_str (some 1) (some 2) (line_of hz))) .loc .pd .pd op_ne_str) fun _ => TsP.or (TsP.cmp hA1 (.slice hA1 .loc (.some .cint) (.some .cint) .none .pd HasGet.str (sl_str (some 2) (some 3) (line_of hz))) .loc .pd .pd op_eq_str) fun _ => TsP.or0) (fun h2 => ?_) (fun h2 => ?_)
    · refine Exs.retP (EvP.tup (ps := [.str "", .str slash, .str (cut x (some 1) none)]) (.cons .loc (.cons .loc (.cons (.slice hA1 .loc (.some .cint) .none .none .pd HasGet.str (sl_str (some 1) none (line_of hz))) .nil))) (line_of (by simp))) fun v hh tk C => RetQ.of C ?_
      rw [Bool.or_false] at h2
      unfold srV; rw [if_neg (Bool.eq_false_iff.mp (show (!cut x none (some 1) == slash) = false from h0)), if_pos (by exact h2)]
    · refine Exs.retP (EvP.tup (ps := [.str "", .str (cut x none (some 2)), .str (cut x (some 2) none)]) (.cons .loc (.cons (.slice hA1 .loc .none (.some .cint) .none .pd HasGet.str (sl_str none (some 2) (line_of hz))) (.cons (.slice hA1 .loc (.some .cint) .none .none .pd HasGet.str (sl_str (some 2) none (line_of hz))) .nil))) (line_of (by simp))) fun v hh tk C => RetQ.of C ?_
      rw [Bool.or_false] at h2
      unfold srV; rw [if_neg (Bool.eq_false_iff.mp (show (!cut x none (some 1) == slash) = false from h0)), if_neg (Bool.eq_false_iff.mp (show (!cut x (some 1) (some 2) == slash || cut x (some 2) (some 3) == slash) = false from h2))]
end
end Mine
end

section
open PySem PySem.W PyProof.Rows PySem.Calls
open PySem.Builtin PySem.Builtin.Str
set_option linter.unusedVariables false
set_option maxRecDepth 100000
namespace Mine

noncomputable def Sub (d0 d : List (Str × LV)) : Prop := ∀ n lv, d0.lookup n = some lv → d.lookup n = some lv
theorem Sub.refl {d : List (Str × LV)} : Sub d d := fun _ _ e => e
theorem Sub.both {d0 d : List (Str × LV)} {x : Str} {y : LV} (h : Sub d0 d) : Sub ((x, y) :: d0) ((x, y) :: d) := fun n lv e => by
  rw [List.lookup_cons] at e ⊢
  cases hb : n == x with
  | true => rw [hb] at e; exact e
  | false => rw [hb] at e; exact h n lv e
theorem Sub.more {d0 d : List (Str × LV)} {x : Str} {y : LV} (h : Sub d0 d) (hx : d0.lookup x = none := by rfl) : Sub d0 ((x, y) :: d) := fun n lv e => by
  rw [List.lookup_cons]
  cases hb : n == x with
  | true => have := eq_of_beq hb; subst this; rw [hx] at e; cases e
  | false => exact h n lv e
theorem Sub.nil {d : List (Str × LV)} : Sub [] d := fun n lv e => nomatch e
theorem Sub.take {d0 d : List (Str × LV)} {x : Str} {lv : LV} (hx : d.lookup x = some lv := by rfl) (h : Sub d0 d) : Sub ((x, lv) :: d0) d := fun n l e => by
  rw [List.lookup_cons] at e
  cases hb : n == x with
  | true => rw [hb] at e; have := eq_of_beq hb; subst this; rw [hx]; exact e
  | false => rw [hb] at e; exact h n l e
theorem Exs.sub {c : Cx} {A : Around} {s : Shared} {d d' : List (Str × LV)} {o : List (Addr × OV)} {ts : List (Value × LV)} {Q : Flow → Shared → Prop} {E : Value → Shared → Prop} {b : List Stmt} (e : Sub d' d) (H : Exs c A s d' o ts b Q E) : Exs c A s d o ts b Q E := H.sub_d e
/-- normpath on the pieces -/
noncomputable def npStep (ini : Str) (new : List Str) (c : Str) : List Str :=
  if ((!decide (c.length ≠ 0)) || c == ".") = true then new
  else if (!(c == "..") || ((!decide (ini.length ≠ 0)) && new.isEmpty) || (!new.isEmpty && (new.getLast?.getD "") == "..")) = true then new ++ [c]
  else new.dropLast
noncomputable def npAll (ini : Str) (cs : List Str) : List Str := cs.foldl (npStep ini) []
theorem npStep_len (ini : Str) (new : List Str) (c : Str) : (npStep ini new c).length ≤ new.length + 1 := by
  unfold npStep
  split
  · lia  
  · split
    · simp
    · simp; lia  
theorem npStep_mem {ini : Str} {new : List Str} {c p : Str} (h : p ∈ npStep ini new c) : p ∈ new ∨ p = c := by
  unfold npStep at h
  split at h
  · exact .inl h
  · split at h
    · simpa using h
    · exact .inl (List.dropLast_subset _ h)
theorem npAll_snoc (ini : Str) (cs : List Str) (c : Str) : npAll ini (cs ++ [c]) = npStep ini (npAll ini cs) c := by simp [npAll]
theorem npFold_len (ini : Str) : ∀ (cs acc : List Str), (cs.foldl (npStep ini) acc).length ≤ acc.length + cs.length
  | [], _ => by simp
  | c :: r, acc => by
    have h1 := npFold_len ini r (npStep ini acc c)
    have h2 := npStep_len ini acc c
    simp only [List.foldl_cons, List.length_cons] at *
    lia  
theorem npFold_mem (ini : Str) : ∀ (cs acc : List Str) (p : Str), p ∈ cs.foldl (npStep ini) acc → p ∈ acc ∨ p ∈ cs
  | [], _, _, h => .inl h
  | c :: r, acc, p, h => by
    rcases npFold_mem ini r _ p h with h | h
    · rcases npStep_mem h with h | h
      · exact .inl h
      · exact .inr (by simp [h])
    · exact .inr (List.mem_cons_of_mem _ h)
theorem npAll_len (ini : Str) (cs : List Str) : (npAll ini cs).length ≤ cs.length := by simpa [npAll] using npFold_len ini cs []
theorem npAll_mem {ini : Str} {cs : List Str} {p : Str} (h : p ∈ npAll ini cs) : p ∈ cs := by
  rcases npFold_mem ini cs [] p h with h | h
  · cases h
  · exact h
theorem join_mem {y : Str} : ∀ {ps : List Str} {p : Str}, p ∈ ps → p.length ≤ (Str.join y ps).length
  | [a], p, h => by simp at h; subst h; exact Nat.le_refl _
  | a :: b :: r, p, h => by
    have e : Str.join y (a :: b :: r) = a ++ y ++ Str.join y (b :: r) := rfl
    rw [e, Str.length_append, Str.length_append]
    rcases List.mem_cons.mp h with h | h
    · subst h; lia  
    · have := join_mem (y := y) h; lia  
theorem split_len {x p : Str} (h : p ∈ Txt.split x slash) : p.length ≤ x.length := by
  have := join_mem (y := slash) h
  rwa [StrLaws.join_split] at this
theorem joinOk_of {xs : List Str} (h1 : xs.length ≤ 1001) (h2 : ∀ p ∈ xs, p.length ≤ 1000) : JoinOk slash xs = true := by
  unfold JoinOk
  have h := StrLaws.joinFits (sep := slash) (texts := xs) (B := 1000) h2 (by rw [show slash.length = 1 by decide]; lia  )
  rw [h]; rfl
theorem join_le {xs : List Str} (h1 : xs.length ≤ 1001) (h2 : ∀ p ∈ xs, p.length ≤ 1000) : (Str.join slash xs).length ≤ 2000000 := by
  have := StrLaws.join_length_le slash xs
  have h3 : ∀ l : List Str, (∀ p ∈ l, p.length ≤ 1000) → (l.map (·.length)).sum ≤ l.length * 1000 := by
    intro l; induction l with
    | nil => simp
    | cons a r ih => intro h; simp only [List.map_cons, List.sum_cons, List.length_cons]; have := h a (by simp); have := ih fun p hp => h p (List.mem_cons_of_mem _ hp); lia  
  have := h3 xs h2
  rw [show slash.length = 1 by decide] at *
  lia  

section
variable {c : Cx} {A : Around} {s : Shared} {d : List (Str × LV)} {o : List (Addr × OV)} {ts : List (Value × LV)} {Q : Flow → Shared → Prop} {E : Value → Shared → Prop}
/-- the states of a loop -/
noncomputable def JF (dF : List LV → List (Str × LV)) (oF : List LV → List (Addr × OV)) (done : List LV) (d : List (Str × LV)) (o : List (Addr × OV)) : Prop := Sub (dF done) d ∧ o = oF done
theorem Exs.forF {x : Str} {px pos : Pos} {iter : Expr} {body rest : List Stmt} {l0 : LV} {items : List LV} (dF : List LV → List (Str × LV)) (oF : List LV → List (Addr × OV)) (B : List (Str × LV) → List (Addr × OV) → Prop)
    (H : EvP c A s d o iter l0) {K : Obj → Prop} (hit : IterTo c A s d o l0 items K) (h0 : Sub (dF []) d) (h1 : o = oF [])
    (step : ∀ done y rest' I ob ts', items = done ++ y :: rest' → Exs c A s ((x, y) :: dF done) ((I, .raw ob) :: oF done) ts' body (LoopQ c s ts' I ob (JF dF oF (done ++ [y])) B Q) NoE)
    (fin : Exs c A s (dF items) (oF items) ts rest Q E) (bfin : ∀ d' o', B d' o' → Exs c A s d' o' ts rest Q E)
    (hs : ∀ x, foldedSetIterable iter c.env x = pure x := by intro _; rfl) (hg : ∀ it v, letOwnedTupleGo (.Name x px) it v = pure () := by intro _ _; rfl)
    (hx : c.env.kindOf x = some .local := by rfl) (hk : c.env.scope.kind = .function := by rfl) :
    Exs c A s d o ts (.For (.Name x px) iter body [] pos :: rest) Q E := by
  refine Exs.forL (fun y d => (x, y) :: d) (JF dF oF) B H hit (fun y d' _ => Tgt.loc hx hk) ⟨h0, h1⟩ (fun done y rest' d' o' I ob ts' e j => ?_) (fun d' o' j => ?_) bfin hs hg
  · obtain ⟨j1, rfl⟩ := j
    exact (step done y rest' I ob ts' e).sub j1.both
  · obtain ⟨j1, rfl⟩ := j
    exact Exs.nilS (fin.sub j1)
theorem LoopQ.nextF {dF : List LV → List (Str × LV)} {oF : List LV → List (Addr × OV)} {done : List LV} {ts' : List (Value × LV)} {I : Addr} {ob : Obj} {B : List (Str × LV) → List (Addr × OV) → Prop} (h1 : Sub (dF done) d) (h2 : o = oF done) {E : Value → Shared → Prop} :
    Exs c A s d ((I, .raw ob) :: o) ts' [] (LoopQ c s ts' I ob (JF dF oF done) B Q) E := Exs.nil fun h tk C => LoopQ.next C ⟨h1, h2⟩
end
theorem Exs.contS {c : Cx} {A : Around} {s : Shared} {d : List (Str × LV)} {o : List (Addr × OV)} {ts : List (Value × LV)} {Q : Flow → Shared → Prop} {E E' : Value → Shared → Prop} {pos : Pos} {rest r2 : List Stmt} (k : ∀ h tk, Cfg c d o ts h → Q .cont (St s h tk)) : Exs c A s d o ts (.Continue pos :: rest) (seqQ c A r2 Q E) E' := Exs.cont k
theorem Exs.brkS {c : Cx} {A : Around} {s : Shared} {d : List (Str × LV)} {o : List (Addr × OV)} {ts : List (Value × LV)} {Q : Flow → Shared → Prop} {E E' : Value → Shared → Prop} {pos : Pos} {rest r2 : List Stmt} (k : ∀ h tk, Cfg c d o ts h → Q .brk (St s h tk)) : Exs c A s d o ts (.Break pos :: rest) (seqQ c A r2 Q E) E' := Exs.brk k
theorem strs_snoc {xs : List Str} {done : List LV} {y : LV} {rest : List LV} (e : (xs.map PyData.str).map LV.p = done ++ y :: rest) : ∃ ds z, done = (ds.map PyData.str).map LV.p ∧ y = .p (.str z) ∧ ∃ r, xs = ds ++ z :: r := by
  rw [List.map_map] at e
  obtain ⟨l1, l2, h1, h2, h3⟩ := List.map_eq_append_iff.mp e
  obtain ⟨z, l3, h4, h5, h6⟩ := List.map_eq_cons_iff.mp h3
  exact ⟨l1, z, by rw [List.map_map, h2], h5.symm, l3, by rw [h1, h4]⟩
/-- the texts of a loop's turns -/
noncomputable def txt : LV → Str
  | .p (.str x) => x
  | _ => ""
theorem txt_map (xs : List Str) : ((xs.map PyData.str).map LV.p).map txt = xs := by
  rw [List.map_map, List.map_map]
  induction xs with
  | nil => rfl
  | cons a r ih => simp [txt] at ih ⊢; exact ih
end Mine
end

section
open PySem PySem.W PyProof.Rows PySem.Calls
open PySem.Builtin PySem.Builtin.Str
set_option linter.unusedVariables false
set_option maxRecDepth 100000
namespace Mine
theorem isE_map (xs : List Str) : (xs.map PyData.str).isEmpty = xs.isEmpty := by cases xs <;> rfl
noncomputable abbrev npD (a : Addr) (ini : Str) : List (Str × LV) := [(Str.ofString "new_comps", .at a), (Str.ofString "sep", .p (.str "/")), (Str.ofString "dot", .p (.str ".")), (Str.ofString "dotdot", .p (.str "..")), (Str.ofString "initial_slashes", .p (.str ini))]
section
variable {prog : Program} {w : World} {fa : Str → Addr} {mg mb : Str → Option Value}
theorem normpath_ok {x ini rst : Str} (hz : x.length ≤ 1000) (hx : x.length ≠ 0) (hs : srV x = [.str "", .str ini, .str rst]) (hi : ini.length ≠ 0) (hi2 : ini.length ≤ 1000) (hr : rst.length ≤ 1000) :
    FnC prog w fa mg mb 4 "normpath" (.p (.str x)) (· = .p (.str (ini ++ Str.join slash (npAll ini (Txt.split rst slash))))) := by
  refine FnC.of1 (i := 20) (x := "path") (by first | with_reducible exact mFa | with_reducible exact mFb | with_reducible exact mFc | with_reducible exact mFd | with_reducible exact mFe | with_reducible exact mFf | with_reducible exact mFg | with_reducible exact mFh | with_reducible exact mFi | with_reducible exact mFj | with_reducible exact mFk) (fun _ _ _ _ _ _ _ => rfl) rfl fun kV doc pm an cd ct L g X A s hA hh T => ?_
  have hA1 : Room 1 A := hA.le (by lia  )
  have hA2 : Room 2 A := hA.le (by lia  )
  refine Exs.set (EvP.call1 (i := 16) T hA2 hh fspath_ok .loc) ?_
  refine Exs.ite (TsP.isby T .loc) (fun h => nomatch h) (fun _ => ?_)
  refine Exs.set .cstr (Exs.set .cstr (Exs.set .cstr (Exs.nilS ?_)))
  refine Exs.ite (k := false) (TsP.cast (TsP.not (TsP.val hA1 .loc .pd (tr_str (line_of hz)))) (by simp [hx])) (fun h => nomatch h) (fun _ => Exs.nilS ?_)
  refine Exs.unp (ps := [.str "", .str ini, .str rst]) (d' := (Str.ofString "path", .p (.str rst)) :: (Str.ofString "initial_slashes", .p (.str ini)) :: (Str.ofString "_", .p (.str "")) :: [(Str.ofString "dotdot", .p (.str "..")), (Str.ofString "dot", .p (.str ".")), (Str.ofString "sep", .p (.str "/")), (Str.ofString "path", .p (.str x)), (Str.ofString "path", .p (.str x))]) hh (EvP.cast (EvP.call1 (i := 18) T hA hh (splitroot_ok hz) .loc) (by rw [hs])) rfl rfl (fun vs h tk Q hl C kk => ?_) ?_
  · obtain ⟨a, b, e, rfl⟩ := list3 hl
    refine assignInOrder_cons (Tgt.loc rfl rfl _ _ _ _ _ _ _ C fun h1 t1 C1 => assignInOrder_cons (Tgt.loc rfl rfl _ _ _ _ _ _ _ C1 fun h2 t2 C2 => assignInOrder_cons (Tgt.loc rfl rfl _ _ _ _ _ _ _ C2 fun h3 t3 C3 => assignInOrder_nil (kk _ _ C3))))
  refine Exs.set (EvP.sm1 hA1 .loc .loc .pd F.slot_str_split F.type_str_split (op_split hr)) ?_
  refine Exs.asg (Ev.lstN (ps := []) .nil (line_of (by simp))) fun lv o' hlv => ?_
  obtain ⟨a, rfl, rfl⟩ := hlv
  have hc := split_count rst
  refine Exs.forF (x := Str.ofString "comp") (fun _ => npD a ini) (fun done => [(a, .lst ((npAll ini (done.map txt)).map .str))]) (fun _ _ => False) (.loc) (IterTo.list hh) (.take rfl <| .take rfl <| .take rfl <| .take rfl <| .take rfl .nil) rfl (fun done y rest' I ob ts' e => ?_) ?_ (fun _ _ f => f.elim)
  · obtain ⟨ds, z, rfl, rfl, r, e2⟩ := strs_snoc e
    have hz1 : z.length ≤ 1000 := Nat.le_trans (split_len (x := rst) (by rw [e2]; simp)) hr
    have hl2 : ds.length ≤ 1000 := by rw [e2] at hc; simp at hc; lia  
    have hl3 : (npAll ini ds).length ≤ 1000 := Nat.le_trans (npAll_len _ _) hl2
    have e3 : npAll ini (((ds.map PyData.str).map LV.p ++ [LV.p (.str z)]).map txt) = npStep ini (npAll ini ds) z := by
      rw [List.map_append, txt_map]; exact npAll_snoc _ _ _
    rw [txt_map]
    generalize hN : npAll ini ds = N at *
    refine Exs.ite (TsP.or (TsP.not (TsP.val hA1 .loc .pd (tr_str (line_of hz1)))) fun _ => TsP.or (TsP.cmp hA1 .loc .loc .pd .pd op_eq_str) fun _ => TsP.or0) (fun h0 => ?_) (fun h0 => ?_)
    · rw [Bool.or_false] at h0
      refine Exs.contS fun h' tk' C => LoopQ.cont (o := [_]) C ⟨Sub.more .refl, ?_⟩
      show [_] = [_]
      rw [e3]; unfold npStep; rw [if_pos (by exact h0)]
    · rw [Bool.or_false] at h0
      refine Exs.nilS ?_
      have ro : Rd [(I, OV.raw ob), (a, OV.lst (N.map .str))] (.at a) (.list (N.map .str)) := .own (by simp)
      have trN : Tr A (.list (N.map .str)) (!N.isEmpty) := by have := tr_list (A := A) (xs := N.map .str) (line_of (by simpa using hl3)); rwa [isE_map] at this
      have last : N ≠ [] → Op2 A getItem (.list (N.map .str)) (.int (-1)) (.str (N.getLast?.getD "")) := fun hne => op_idx_neg (by decide) (by simp; have := List.length_pos_iff.mpr hne; lia  ) (by
        have hp := List.length_pos_iff.mpr hne
        have : ((-1 : Int) + ((N.map PyData.str).length : Int)).toNat = N.length - 1 := by simp; lia  
        rw [this, List.getElem?_map, ← List.getLast?_eq_getElem?, List.getLast?_eq_some_getLast hne]; rfl) (line_of (by simpa using hl3))
      refine Exs.ite (k := (!(z == "..") || ((!decide (ini.length ≠ 0)) && N.isEmpty) || (!N.isEmpty && (N.getLast?.getD "") == ".."))) (TsP.cast (TsP.or (TsP.cmp hA1 .loc .loc .pd .pd op_ne_str) fun _ => TsP.or (TsP.and (TsP.not (TsP.val hA1 .loc .pd (tr_str (line_of hi2)))) fun _ => TsP.and (TsP.not (TsP.val hA1 .loc ro trN)) fun _ => TsP.and0) fun _ => TsP.or (TsP.and (TsP.val hA1 .loc ro trN) fun hne => TsP.and (TsP.cmp hA1 (EvP.sub hA1 .loc (.un hA1 .cint .pd op_neg_int) ro .pd HasGet.list (last (by intro q; rw [q] at hne; simp at hne))) .loc .pd .pd op_eq_str) fun _ => TsP.and0) fun _ => TsP.or0) ?_) (fun h1 => ?_) (fun h1 => ?_)
      · simp [Bool.or_assoc]
      · refine Exs.app (xs := N.map .str) .loc .loc (.tail .head) (line_of (by simpa using hl3)) (Exs.nilS ?_)
        refine LoopQ.nextF (o := [_]) ?_ ?_; exact Sub.more .refl
        show [_] = [_]
        rw [e3]; unfold npStep; rw [if_neg (Bool.eq_false_iff.mp h0), if_pos h1]; simp
      · refine Exs.ite (TsP.val hA1 .loc ro trN) (fun h2 => ?_) (fun h2 => ?_)
        · refine Exs.pop (xs := N) .loc (.tail .head) (line_of hl3) (by intro q; rw [q] at h2; simp at h2) (Exs.nilS (Exs.nilS ?_))
          refine LoopQ.nextF (o := [_]) ?_ ?_; exact Sub.more .refl
          show [_] = [_]
          rw [e3]; unfold npStep; rw [if_neg (Bool.eq_false_iff.mp h0), if_neg (Bool.eq_false_iff.mp h1)]
        · refine Exs.nilS (Exs.nilS ?_)
          refine LoopQ.nextF (o := [_]) ?_ ?_; exact Sub.more .refl
          show [_] = [_]
          rw [e3]; unfold npStep; rw [if_neg (Bool.eq_false_iff.mp h0), if_neg (Bool.eq_false_iff.mp h1)]
          have : N = [] := by cases N with | nil => rfl | cons _ _ => simp at h2
          subst this; rfl
  · rw [txt_map]
    refine Exs.frz (x := Str.ofString "new_comps") rfl ?_
    refine Exs.set .loc ?_
    have hl4 : (npAll ini (Txt.split rst slash)).length ≤ 1001 := Nat.le_trans (npAll_len _ _) (by lia  )
    have hl5 : ∀ p ∈ npAll ini (Txt.split rst slash), p.length ≤ 1000 := fun p hp => Nat.le_trans (split_len (npAll_mem hp)) hr
    have hl6 := join_le hl4 hl5
    have hsl : sizeLine = 16777216 := by decide
    refine Exs.set (EvP.bin hA1 .loc (EvP.sm1 hA1 .loc .loc .pd F.slot_str_join F.type_str_join (op_join (joinOk_of hl4 hl5))) .pd .pd (op_add_str (by lia  ))) ?_
    refine Exs.retP (EvP.or1 hA1 .loc .pd (by
      have := tr_str (A := A) (a := ini ++ Str.join slash (npAll ini (Txt.split rst slash))) (by rw [Str.length_append]; lia  )
      rwa [decide_eq_true (by rw [Str.length_append]; lia  )] at this)) fun v h tk C => RetQ.of C rfl
end
end Mine
end

section
open PySem PySem.W PyProof.Rows PySem.Calls
open PySem.Builtin PySem.Builtin.Str
set_option linter.unusedVariables false
set_option maxRecDepth 100000
namespace Mine
section
variable {prog : Program} {w : World} {fa : Str → Addr} {mg mb : Str → Option Value}

structure IsWay (x : Str) (ws : List Str) : Prop where
  first : ws[0]? = some x
  next : ∀ i y z, ws[i]? = some y → ws[i + 1]? = some z → dirV y = z ∧ z ≠ y
  last : ∀ y, ws.getLast? = some y → dirV y = y
  short : ∀ y ∈ ws, y.length ≤ 1000
  few : ws.length ≤ 1000
theorem op_last_strs {A : Around} {N : List Str} (hl : N.length ≤ 1001) (hne : N ≠ []) : Op2 A getItem (SL N) (.int (-1)) (.str (N.getLast?.getD "")) :=
  op_idx_neg (by decide) (by simp; have := List.length_pos_iff.mpr hne; lia  ) (by
    have hp := List.length_pos_iff.mpr hne
    have : ((-1 : Int) + ((N.map PyData.str).length : Int)).toNat = N.length - 1 := by simp; lia  
    rw [this, List.getElem?_map, ← List.getLast?_eq_getElem?, List.getLast?_eq_some_getLast hne]; rfl) (Nat.le_trans (by simpa using hl) (by decide))
theorem law_way_ok {x : Str} {ws : List Str} (hw : IsWay x ws) : FnC prog w fa mg mb 4 "_law_way" (.p (.str x)) (· = .p (SL ws)) := by
  refine FnC.of1 (i := 23) (x := "place") (by first | with_reducible exact mFa | with_reducible exact mFb | with_reducible exact mFc | with_reducible exact mFd | with_reducible exact mFe | with_reducible exact mFf | with_reducible exact mFg | with_reducible exact mFh | with_reducible exact mFi | with_reducible exact mFj | with_reducible exact mFk) (fun _ _ _ _ _ _ _ => rfl) rfl fun kV doc pm an cd ct L g X A s hA hh T => ?_
  have hA1 : Room 1 A := hA.le (by lia  )
  refine Exs.asg (Ev.lstN (ps := [.str x]) (.cons .loc .nil) (line_of (by simp))) fun lv o' hlv => ?_
  obtain ⟨a, rfl, rfl⟩ := hlv
  have hpos : 0 < ws.length := by
    rcases Nat.eq_zero_or_pos ws.length with h | h
    · have := hw.first; simp [List.length_eq_zero_iff.mp h] at this
    · exact h
  refine Exs.whl (fun n d o => ∃ i, n = ws.length - i ∧ i < ws.length ∧ Sub [(Str.ofString "way", .at a)] d ∧ o = [(a, .lst ((ws.take (i + 1)).map .str))]) (fun _ _ => False) ws.length
    ⟨0, rfl, hpos, .take rfl .nil, ?_⟩ ?_ (fun _ _ f => f.elim)
  · have : ws.take 1 = [x] := by
      cases ws with
      | nil => simp at hpos
      | cons a r => have := hw.first; simp at this; simp [this]
    rw [this]; rfl
  rintro n d o ⟨i, hn, hi, hd, rfl⟩
  refine ⟨true, TsP.val hA1 .cbool .pd tr_bool, fun _ => ?_, fun h => nomatch h⟩
  refine Exs.sub hd ?_
  have hne : ws.take (i + 1) ≠ [] := by intro q; have := congrArg List.length q; rw [List.length_take, List.length_nil] at this; lia  
  have hlen : (ws.take (i + 1)).length = i + 1 := by simp; lia  
  have hlast : (ws.take (i + 1)).getLast?.getD "" = ws[i] := by
    rw [List.getLast?_eq_getElem?, hlen]; simp [hi]
  have lst : Op2 A getItem (.list ((ws.take (i + 1)).map .str)) (.int (-1)) (.str ws[i]) := by
    have := op_last_strs (A := A) (N := ws.take (i + 1)) (by have := hw.few; lia  ) hne
    rwa [hlast] at this
  have ro : Rd [(a, OV.lst ((ws.take (i + 1)).map .str))] (.at a) (.list ((ws.take (i + 1)).map .str)) := .own (by simp)
  refine Exs.set (EvP.call1 (i := 19) T hA hh (dirname_ok (hw.short _ (by simp))) (EvP.sub hA1 .loc (.un hA1 .cint .pd op_neg_int) ro .pd HasGet.list lst)) ?_
  refine Exs.ite (TsP.cmp hA1 .loc (EvP.sub hA1 .loc (.un hA1 .cint .pd op_neg_int) ro .pd HasGet.list lst) .pd .pd op_eq_str) (fun h0 => ?_) (fun h0 => ?_)
  · have hq : dirV ws[i] = ws[i] := eq_of_beq h0
    have hie : i + 1 = ws.length := by
      rcases Nat.lt_or_ge (i + 1) ws.length with h | h
      · have := hw.next i ws[i] ws[i+1] (by simp) (by simp)
        exact absurd (this.1.symm.trans hq) this.2
      · lia  
    rw [hie, List.take_length]
    refine Exs.retP .loc fun v h tk C => ?_
    exact RetQ.own C rfl
  · have hlt : i + 1 < ws.length := by
      rcases Nat.lt_or_ge (i + 1) ws.length with h | h
      · exact h
      · have hl : ws.getLast? = some ws[i] := by rw [List.getLast?_eq_getElem?]; have : ws.length - 1 = i := by lia  
                                                 rw [this]; simp
        rw [hw.last _ hl] at h0; simp at h0
    have hnx := hw.next i ws[i] ws[i+1] (by simp) (by simp)
    rw [hnx.1]
    refine Exs.nilS (Exs.app .loc .loc .head (line_of (by rw [List.length_map, hlen]; have := hw.few; lia  )) (Exs.nil fun h tk C => WQ.next C ⟨ws.length - (i + 1), by lia  , i + 1, rfl, hlt, .take rfl .nil, ?_⟩))
    have : ws.take (i + 1 + 1) = ws.take (i + 1) ++ [ws[i + 1]] := by rw [List.take_add_one]; simp [hlt]
    show [_] = [_]
    rw [this, List.map_append]; rfl

noncomputable def rowStep (row : List Str) (p : Str) : List Str := if (p == "..") = true then row.take (max 1 (row.length - 1)) else if (!([("" : Str), "."].contains p)) = true then row ++ [p] else row
noncomputable def rootV (x : Str) : Str := if (cut x none (some 2) == "//") = true then "//" else "/"
noncomputable def rowV (x : Str) : List Str := (Txt.split x slash).foldl rowStep [rootV x]
theorem rowStep_len (row : List Str) (p : Str) : (rowStep row p).length ≤ row.length + 1 := by
  unfold rowStep
  split
  · simp; lia  
  · split <;> simp
theorem rowFold_len : ∀ (cs acc : List Str), (cs.foldl rowStep acc).length ≤ acc.length + cs.length
  | [], _ => by simp
  | c :: r, acc => by
    have h1 := rowFold_len r (rowStep acc c)
    have h2 := rowStep_len acc c
    simp only [List.foldl_cons, List.length_cons] at *
    lia  
theorem sl_upto_strs {A : Around} {xs : List Str} {k : Int} (n : Nat) (hk : k = n) (hz : xs.length ≤ 3000) : SlOp A (SL xs) none (some k) none (SL (xs.take n)) := by
  subst hk
  have := sl_upto (A := A) (xs := xs.map .str) n (Nat.le_trans (by simpa using hz) (by decide))
  rwa [← List.map_take] at this
theorem op_add_strs {A : Around} {xs ys : List Str} (hz : xs.length + ys.length ≤ 100000) : Op2 A (binaryOp .Add) (SL xs) (SL ys) (SL (xs ++ ys)) := by
  have := op_add_list (A := A) (xs := xs.map .str) (ys := ys.map .str) (Nat.le_trans (by simpa using hz) (by decide))
  rwa [← List.map_append] at this
theorem op_len_strs {A : Around} {xs : List Str} (hz : xs.length ≤ 100000) : Op1 A (fun u => call (.builtin "len") [u]) (SL xs) (.int xs.length) := by
  have := op_len_list (A := A) (xs := xs.map .str) (Nat.le_trans (by simpa using hz) (by decide))
  rwa [List.length_map] at this
theorem law_row_ok {x : Str} (hz : x.length ≤ 1000) : FnC prog w fa mg mb 3 "_law_row" (.p (.str x)) (· = .p (SL (rowV x))) := by
  refine FnC.of1 (i := 24) (x := "text") (by first | with_reducible exact mFa | with_reducible exact mFb | with_reducible exact mFc | with_reducible exact mFd | with_reducible exact mFe | with_reducible exact mFf | with_reducible exact mFg | with_reducible exact mFh | with_reducible exact mFi | with_reducible exact mFj | with_reducible exact mFk) (fun _ _ _ _ _ _ _ => rfl) rfl fun kV doc pm an cd ct L g X A s hA hh T => ?_
  have hA1 : Room 1 A := hA.le (by lia  )
  have hc := split_count x
  refine Exs.set (lv := .p (SL [rootV x])) (EvP.lst (ps := [.str (rootV x)]) (.cons (EvP.ifx (TsP.cmp hA1 (.slice hA1 .loc .none (.some .cint) .none .pd HasGet.str (sl_str none (some 2) (line_of hz))) .cstr .pd .pd op_eq_str) (fun h0 => .cast .cstr (by unfold rootV; rw [if_pos (by exact h0)])) (fun h0 => .cast .cstr (by unfold rootV; rw [if_neg (Bool.eq_false_iff.mp (by exact h0))]))) .nil) (line_of (by simp))) ?_
  refine Exs.forF (x := Str.ofString "piece") (fun done => [(Str.ofString "row", .p (SL ((done.map txt).foldl rowStep [rootV x])))]) (fun _ => []) (fun _ _ => False) (EvP.sm1 hA1 .loc .cstr .pd F.slot_str_split F.type_str_split (op_split hz)) (IterTo.list hh) (.take rfl .nil) rfl (fun done y rest' I ob ts' e => ?_) ?_ (fun _ _ f => f.elim)
  · obtain ⟨ds, z, rfl, rfl, r, e2⟩ := strs_snoc e
    rw [txt_map]
    have e3 : (((ds.map PyData.str).map LV.p ++ [LV.p (.str z)]).map txt).foldl rowStep [rootV x] = rowStep (ds.foldl rowStep [rootV x]) z := by
      rw [List.map_append, txt_map, List.foldl_append]; rfl
    have hl3 : (ds.foldl rowStep [rootV x]).length ≤ 1002 := by
      have := rowFold_len ds [rootV x]
      rw [e2] at hc; simp at hc this; lia  
    generalize hN : ds.foldl rowStep [rootV x] = N at *
    refine Exs.ite (TsP.cmp hA1 .loc .cstr .pd .pd op_eq_str) (fun h0 => ?_) (fun h0 => ?_)
    · refine Exs.set (lv := .p (SL (N.take (max 1 (N.length - 1))))) (EvP.slice hA1 .loc .none (.some (EvP.blt2 T hA1 (by first | with_reducible exact mBa | with_reducible exact mBb | with_reducible exact mBc | with_reducible exact mBd | with_reducible exact mBe | with_reducible exact mBf | with_reducible exact mBg | with_reducible exact mBh | with_reducible exact mBi | with_reducible exact mBj | with_reducible exact mBk | with_reducible exact mBl | with_reducible exact mBm | with_reducible exact mBn) .cint (EvP.bin hA1 (EvP.blt1 T hA1 (by first | with_reducible exact mBa | with_reducible exact mBb | with_reducible exact mBc | with_reducible exact mBd | with_reducible exact mBe | with_reducible exact mBf | with_reducible exact mBg | with_reducible exact mBh | with_reducible exact mBi | with_reducible exact mBj | with_reducible exact mBk | with_reducible exact mBl | with_reducible exact mBm | with_reducible exact mBn) .loc .pd (op_len_strs (by lia  ))) .cint .pd .pd op_sub_int) .pd .pd (op_max hh))) .none .pd HasGet.list (sl_upto_strs _ ?_ (by lia  ))) (Exs.nilS ?_)
      · split <;> lia  
      · refine LoopQ.nextF (o := []) ?_ ?_; rotate_left; exact rfl
        refine .take ?_ .nil
        rw [e3]; unfold rowStep; rw [if_pos h0]; rfl
    · refine Exs.ite (TsP.cmp hA1 .loc (EvP.tup (ps := [("" : Str), "."].map .str) (.cons .cstr (.cons .cstr .nil)) (line_of (by simp))) .pd .pd op_notin_tup) (fun h1 => ?_) (fun h1 => ?_)
      · refine Exs.set (lv := .p (SL (N ++ [z]))) (EvP.bin hA1 .loc (EvP.lst (ps := [z].map .str) (.cons .loc .nil) (line_of (by simp))) .pd .pd (op_add_strs (by simp; lia  ))) (Exs.nilS (Exs.nilS ?_))
        refine LoopQ.nextF (o := []) ?_ ?_; rotate_left; exact rfl
        refine .take ?_ .nil
        rw [e3]; unfold rowStep; rw [if_neg (Bool.eq_false_iff.mp h0), if_pos h1]; rfl
      · refine Exs.nilS (Exs.nilS ?_); refine LoopQ.nextF (o := []) ?_ ?_; rotate_left; exact rfl
        refine .take ?_ .nil
        rw [e3]; unfold rowStep; rw [if_neg (Bool.eq_false_iff.mp h0), if_neg (Bool.eq_false_iff.mp h1)]; rfl
  · rw [txt_map]
    exact Exs.retP .loc fun v h tk C => RetQ.of C rfl
end
end Mine
end

section
open PySem PySem.W PyProof.Rows PySem.Calls
set_option linter.unusedVariables false
set_option maxRecDepth 100000
namespace Mine

section
variable {n : Nat} {key : Nat → Nat} {P : Shared → Prop} {cmp : Nat → Nat → (Bool → Shared → Prop) → Shared → Prop}
noncomputable def CmpOk (n : Nat) (key : Nat → Nat) (P : Shared → Prop) (cmp : Nat → Nat → (Bool → Shared → Prop) → Shared → Prop) : Prop :=
  ∀ i j (C : Bool → Shared → Prop) s, i < n → j < n → P s → (∀ s', P s' → C (decide (key i < key j)) s') → cmp i j C s
noncomputable def KV (key : Nat → Nat) (p : Array Nat) (i : Nat) : Nat := key (p.getD i 0)
noncomputable def Srt (key : Nat → Nat) (p : Array Nat) (k : Nat) : Prop := ∀ i j, i ≤ j → j < k → KV key p i ≤ KV key p j
noncomputable def Dsc (key : Nat → Nat) (p : Array Nat) (k : Nat) : Prop := ∀ i j, i ≤ j → j < k → KV key p j ≤ KV key p i
noncomputable def PR (n : Nat) (p : Array Nat) : Prop := p.Perm (List.range n).toArray
theorem PR.size {p : Array Nat} (h : PR n p) : p.size = n := by have := Array.Perm.size_eq h; simpa using this
theorem PR.lt {p : Array Nat} (h : PR n p) {i : Nat} (hi : i < n) : p.getD i 0 < n := by
  have hs := h.size
  have e : p.getD i 0 = p[i]'(by lia  ) := by simp [Array.getD, hs, hi]
  rw [e]
  have : p[i]'(by lia  ) ∈ (List.range n).toArray := (Array.Perm.mem_iff h).mp (by simp)
  simpa using this
theorem KV_congr {p q : Array Nat} {i j : Nat} (h : p[i]? = q[j]?) : KV key p i = KV key q j := by
  unfold KV
  rw [Array.getD_eq_getD_getElem?, Array.getD_eq_getD_getElem?, h]
theorem KV_rev {p : Array Nat} {i j : Nat} (hj : j ≤ p.size) (k : Nat) : KV key (kas_rev p i j) k = if i ≤ k ∧ k < j then KV key p (i + j - 1 - k) else KV key p k := by
  have e := getElem?_mirror_all (xs := p) (i := i) hj k
  unfold kas_rev
  by_cases h1 : i ≤ k ∧ k < j
  · rw [if_pos h1] at e ⊢; exact KV_congr e
  · rw [if_neg h1] at e ⊢; exact KV_congr e
theorem KV_rev_eq {p : Array Nat} {i j : Nat} (hj : j ≤ p.size) (heq : ∀ k, i ≤ k → k < j → KV key p k = KV key p (j - 1)) (k : Nat) : KV key (kas_rev p i j) k = KV key p k := by
  rw [KV_rev hj]
  split
  · rw [heq _ (by lia  ) (by lia  ), heq k (by lia  ) (by lia  )]
  · rfl
theorem KV_bub {p : Array Nat} {src d : Nat} (hs : src < p.size) (hd : d ≤ src) (k : Nat) :
    KV key (bubble p src d) k = if k = src - d then KV key p src else if src - d < k ∧ k ≤ src then KV key p (k - 1) else KV key p k := by
  have e := getElem?_bubble (xs := p) hs d hd k
  by_cases h1 : k = src - d
  · rw [if_pos h1] at e ⊢; exact KV_congr e
  · rw [if_neg h1] at e ⊢
    by_cases h2 : src - d < k ∧ k ≤ src
    · rw [if_pos h2] at e ⊢; exact KV_congr e
    · rw [if_neg h2] at e ⊢; exact KV_congr e
theorem PR.rev {p : Array Nat} (h : PR n p) (i j : Nat) : PR n (kas_rev p i j) := (mirror_perm _ _ _ _).trans h
theorem PR.bub {p : Array Nat} (h : PR n p) (i j : Nat) : PR n (bubble p i j) := (bubble_perm _ _ _).trans h

theorem asc_ok (hc : CmpOk n key P cmp) {p : Array Nat} (hp : PR n p) {Q : Nat → Shared → Prop} : ∀ (f a : Nat) (s : Shared), 1 ≤ a → a + f ≤ n → Srt key p a → P s → (∀ m s', a ≤ m → m ≤ a + f → Srt key p m → (m < a + f → KV key p m < KV key p (m - 1)) → P s' → Q m s') → (kas_asc p f a).kasWp cmp Q s
  | 0, a, s, h1, hn, hs, hP, k => k a s (Nat.le_refl _) (Nat.le_refl _) hs (fun h => by lia  ) hP
  | f + 1, a, s, h1, hn, hs, hP, k => by
    refine hc _ _ _ _ (hp.lt (by lia  )) (hp.lt (by lia  )) hP fun s' hP' => ?_
    by_cases hlt : key (p.getD a 0) < key (p.getD (a - 1) 0)
    · rw [decide_eq_true hlt]
      show KasT.kasWp cmp (if true = true then .ret a else _) Q s'
      rw [if_pos rfl]
      exact k a s' (Nat.le_refl _) (by lia  ) hs (fun _ => hlt) hP'
    · rw [decide_eq_false hlt]
      show KasT.kasWp cmp (if false = true then .ret a else _) Q s'
      rw [if_neg (by decide)]
      refine asc_ok hc hp f (a + 1) s' (by lia  ) (by lia  ) (fun i j hij hj => ?_) hP' fun m s2 h2 h3 h4 h5 h6 => k m s2 (by lia  ) (by lia  ) h4 (fun h => h5 (by lia  )) h6
      rcases Nat.lt_or_ge j a with hja | hja
      · exact hs i j hij hja
      · have hj' : j = a := by lia  
        subst hj'
        rcases Nat.lt_or_ge i j with hi | hi
        · exact Nat.le_trans (hs i (j - 1) (by lia  ) (by lia  )) (by unfold KV; lia  )
        · have : i = j := by lia  
          subst this; exact Nat.le_refl _

theorem desc_ok (hc : CmpOk n key P cmp) {Q : Array Nat × Nat × Nat → Shared → Prop} : ∀ (f : Nat) (p : Array Nat) (a q : Nat) (s : Shared), PR n p → q + 1 ≤ a → 1 ≤ a → a + f ≤ n → Dsc key p a → (∀ i, a - (q + 1) ≤ i → i < a → KV key p i = KV key p (a - 1)) → P s →
    (∀ p' m q' s', PR n p' → a ≤ m → m ≤ a + f → q' + 1 ≤ m → Dsc key p' m → (∀ i, m - (q' + 1) ≤ i → i < m → KV key p' i = KV key p' (m - 1)) → P s' → Q (p', m, q') s') → (kas_desc f p a q).kasWp cmp Q s
  | 0, p, a, q, s, hp, hq, h1, hn, hs, he, hP, k => k p a q s hp (Nat.le_refl _) (Nat.le_refl _) hq hs he hP
  | f + 1, p, a, q, s, hp, hq, h1, hn, hs, he, hP, k => by
    refine hc _ _ _ _ (hp.lt (by lia  )) (hp.lt (by lia  )) hP fun s' hP' => ?_
    have ext : ∀ p', PR n p' → (∀ i, KV key p' i = KV key p i) → KV key p a ≤ KV key p (a - 1) → Dsc key p' (a + 1) := fun p' _ e hle i j hij hj => by
      rw [e, e]
      rcases Nat.lt_or_ge j a with hja | hja
      · exact hs i j hij hja
      · have hj' : j = a := by lia  
        subst hj'
        rcases Nat.lt_or_ge i j with hi | hi
        · exact Nat.le_trans hle (hs i (j - 1) (by lia  ) (by lia  ))
        · have : i = j := by lia  
          subst this; exact Nat.le_refl _
    by_cases hlt : key (p.getD a 0) < key (p.getD (a - 1) 0)
    · rw [decide_eq_true hlt]
      show KasT.kasWp cmp (if true = true then (if q > 0 then kas_desc f (kas_rev p (a - (q + 1)) a) (a + 1) 0 else kas_desc f p (a + 1) 0) else _) Q s'
      rw [if_pos rfl]
      by_cases hq0 : q > 0
      · rw [if_pos hq0]
        have hV : ∀ i, KV key (kas_rev p (a - (q + 1)) a) i = KV key p i := fun i => KV_rev_eq (by rw [hp.size]; lia  ) (fun k h1 h2 => he k h1 h2) i
        refine desc_ok hc f _ (a + 1) 0 s' (hp.rev _ _) (by lia  ) (by lia  ) (by lia  ) (ext _ (hp.rev _ _) hV (by unfold KV; lia  )) (fun i h2 h3 => ?_) hP' fun p' m q' s2 g1 g2 g3 g4 g5 g6 g7 => k p' m q' s2 g1 (by lia  ) (by lia  ) g4 g5 g6 g7
        have : i = a + 1 - 1 := by lia  
        rw [this]
      · rw [if_neg hq0]
        refine desc_ok hc f _ (a + 1) 0 s' hp (by lia  ) (by lia  ) (by lia  ) (ext _ hp (fun _ => rfl) (by unfold KV; lia  )) (fun i h2 h3 => ?_) hP' fun p' m q' s2 g1 g2 g3 g4 g5 g6 g7 => k p' m q' s2 g1 (by lia  ) (by lia  ) g4 g5 g6 g7
        have : i = a + 1 - 1 := by lia  
        rw [this]
    · rw [decide_eq_false hlt]
      show KasT.kasWp cmp (if false = true then _ else .ask (p.getD (a - 1) 0) (p.getD a 0) fun d => if d = true then .ret (p, a, q) else kas_desc f p (a + 1) (q + 1)) Q s'
      rw [if_neg (by decide)]
      refine hc _ _ _ _ (hp.lt (by lia  )) (hp.lt (by lia  )) hP' fun s2 hP2 => ?_
      by_cases hlt2 : key (p.getD (a - 1) 0) < key (p.getD a 0)
      · rw [decide_eq_true hlt2]
        show KasT.kasWp cmp (if true = true then .ret (p, a, q) else _) Q s2
        rw [if_pos rfl]
        exact k p a q s2 hp (Nat.le_refl _) (by lia  ) hq hs he hP2
      · rw [decide_eq_false hlt2]
        show KasT.kasWp cmp (if false = true then _ else kas_desc f p (a + 1) (q + 1)) Q s2
        rw [if_neg (by decide)]
        have heq : KV key p a = KV key p (a - 1) := by unfold KV; lia  
        refine desc_ok hc f _ (a + 1) (q + 1) s2 hp (by lia  ) (by lia  ) (by lia  ) (ext _ hp (fun _ => rfl) (by lia  )) (fun i h2 h3 => ?_) hP2 fun p' m q' s3 g1 g2 g3 g4 g5 g6 g7 => k p' m q' s3 g1 (by lia  ) (by lia  ) g4 g5 g6 g7
        have e1 : a + 1 - 1 = a := by lia  
        rw [e1]
        rcases Nat.lt_or_ge i a with hi | hi
        · rw [he i (by lia  ) hi, heq]
        · have : i = a := by lia  
          rw [this]

theorem tail3_ok (hc : CmpOk n key P cmp) {p : Array Nat} {a : Nat} (hp : PR n p) (h1 : 1 ≤ a) (ha : a ≤ n) (hs : Dsc key p a) {Q : Nat × Array Nat → Shared → Prop} {s : Shared} (hP : P s)
    (k : ∀ p' m s', PR n p' → 1 ≤ m → m ≤ n → Srt key p' m → P s' → Q (m, p') s') : (kas_tail3 a n p).kasWp cmp Q s := by
  unfold kas_tail3
  rw [KasT.kasWp_bind]
  have hV := KV_rev (key := key) (p := p) (i := 0) (j := a) (by rw [hp.size]; exact ha)
  refine asc_ok hc (hp.rev 0 a) (n - a) a s h1 (by lia  ) (fun i j hij hj => ?_) hP fun m s' g1 g2 g3 _ g4 => k _ m s' (hp.rev 0 a) (by lia  ) (by lia  ) g3 g4
  rw [hV, hV, if_pos ⟨Nat.zero_le _, by lia  ⟩, if_pos ⟨Nat.zero_le _, hj⟩]
  exact hs _ _ (by lia  ) (by lia  )

theorem descPart_ok (hc : CmpOk n key P cmp) {p : Array Nat} {a : Nat} (hp : PR n p) (h1 : 1 ≤ a) (ha : a < n) (hs : Dsc key p (a + 1)) {Q : Nat × Array Nat → Shared → Prop} {s : Shared} (hP : P s)
    (k : ∀ p' m s', PR n p' → 1 ≤ m → m ≤ n → Srt key p' m → P s' → Q (m, p') s') : (kas_descPart a n p).kasWp cmp Q s := by
  unfold kas_descPart
  rw [KasT.kasWp_bind]
  refine desc_ok hc _ p (a + 1) 0 s hp (by lia  ) (by lia  ) (by lia  ) hs (fun i h2 h3 => by rw [show i = a + 1 - 1 by lia  ]) hP fun p' m q' s' g1 g2 g3 g4 g5 g6 g7 => ?_
  show KasT.kasWp cmp (if q' > 0 then kas_tail3 m n (kas_rev p' (m - (q' + 1)) m) else kas_tail3 m n p') Q s'
  split
  · have hV : ∀ i, KV key (kas_rev p' (m - (q' + 1)) m) i = KV key p' i := fun i => KV_rev_eq (by rw [g1.size]; lia  ) (fun k h1 h2 => g6 k h1 h2) i
    exact tail3_ok hc (g1.rev _ _) (by lia  ) (by lia  ) (fun i j hij hj => by rw [hV, hV]; exact g5 i j hij hj) g7 k
  · exact tail3_ok hc g1 (by lia  ) (by lia  ) g5 g7 k

theorem count_ok (hc : CmpOk n key P cmp) {p : Array Nat} (hp : PR n p) (h1 : 1 ≤ n) {Q : Nat × Array Nat → Shared → Prop} {s : Shared} (hP : P s)
    (k : ∀ p' m s', PR n p' → 1 ≤ m → m ≤ n → Srt key p' m → P s' → Q (m, p') s') : (kas_count n p).kasWp cmp Q s := by
  unfold kas_count
  rw [KasT.kasWp_bind]
  refine asc_ok hc hp (n - 1) 1 s (by lia  ) (by lia  ) (fun i j hij hj => by have : i = j := by lia  
                                                                              subst this; exact Nat.le_refl _) hP fun m s' g1 g2 g3 g4 g5 => ?_
  by_cases hm : (m == n) = true
  · rw [if_pos hm]
    exact k p m s' hp g1 (by lia  ) g3 g5
  · rw [if_neg hm]
    have hmn : m < n := by have : m ≠ n := by simpa using hm
                           lia  
    have hlow := g4 (by lia  )
    by_cases hm1 : m > 1
    · rw [if_pos hm1]
      refine hc _ _ _ _ (hp.lt (by lia  )) (hp.lt (by lia  )) g5 fun s2 hP2 => ?_
      by_cases hlt : key (p.getD 0 0) < key (p.getD (m - 1) 0)
      · rw [decide_eq_true hlt]
        show KasT.kasWp cmp (if true = true then .ret (m, p) else _) Q s2
        rw [if_pos rfl]
        exact k p m s2 hp g1 (by lia  ) g3 hP2
      · rw [decide_eq_false hlt]
        show KasT.kasWp cmp (if false = true then _ else kas_descPart m n (kas_rev p 0 m)) Q s2
        rw [if_neg (by decide)]
        have all : ∀ i, i < m → KV key p i = KV key p (m - 1) := fun i hi => by
          have e1 := g3 0 i (by lia  ) hi
          have e2 := g3 i (m - 1) (by lia  ) (by lia  )
          unfold KV at *; lia  
        have hV : ∀ i, KV key (kas_rev p 0 m) i = KV key p i := fun i => KV_rev_eq (by rw [hp.size]; lia  ) (fun k _ h2 => all k h2) i
        refine descPart_ok hc (hp.rev _ _) (by lia  ) hmn (fun i j hij hj => ?_) hP2 k
        rw [hV, hV]
        rcases Nat.lt_or_ge j m with hj' | hj'
        · rw [all i (by lia  ), all j hj']; exact Nat.le_refl _
        · have : j = m := by lia  
          subst this
          rcases Nat.lt_or_ge i j with hi | hi
          · rw [all i hi]; lia  
          · have : i = j := by lia  
            subst this; exact Nat.le_refl _
    · rw [if_neg hm1]
      have : m = 1 := by lia  
      subst this
      refine descPart_ok hc hp (by lia  ) hmn (fun i j hij hj => ?_) g5 k
      rcases Nat.lt_or_ge i j with hi | hi
      · have e1 : i = 0 := by lia  
        have e2 : j = 1 := by lia  
        subst e1; subst e2
        exact Nat.le_of_lt hlow
      · have : i = j := by lia  
        subst this; exact Nat.le_refl _

theorem place_ok (hc : CmpOk n key P cmp) {p : Array Nat} {a : Nat} (hp : PR n p) (ha : a < n) (hs : Srt key p a) {Q : Nat → Shared → Prop} (k : ∀ m s', m ≤ a → (∀ i, i < m → KV key p i ≤ KV key p a) → (∀ i, m ≤ i → i < a → KV key p a ≤ KV key p i) → P s' → Q m s') :
    ∀ (f l r : Nat) (s : Shared), l ≤ r → r ≤ a → r - l ≤ f → (∀ i, i < l → KV key p i ≤ KV key p a) → (∀ i, r ≤ i → i < a → KV key p a ≤ KV key p i) → P s → (kas_place p a f l r).kasWp cmp Q s
  | 0, l, r, s, h1, h2, h3, h4, h5, hP => k l s (by lia  ) h4 (fun i hi => h5 i (by lia  )) hP
  | f + 1, l, r, s, h1, h2, h3, h4, h5, hP => by
    unfold kas_place
    by_cases hlr : l ≥ r
    · rw [if_pos hlr]; exact k l s (by lia  ) h4 (fun i hi => h5 i (by lia  )) hP
    · rw [if_neg hlr]
      refine hc _ _ _ _ (hp.lt (by lia  )) (hp.lt (by lia  )) hP fun s' hP' => ?_
      by_cases hlt : key (p.getD a 0) < key (p.getD ((l + r) / 2) 0)
      · rw [decide_eq_true hlt]
        show KasT.kasWp cmp (if true = true then kas_place p a f l ((l + r) / 2) else _) Q s'
        rw [if_pos rfl]
        refine place_ok hc hp ha hs k f l ((l + r) / 2) s' (by lia  ) (by lia  ) (by lia  ) h4 (fun i h6 h7 => ?_) hP'
        exact Nat.le_trans (Nat.le_of_lt hlt) (hs _ i h6 h7)
      · rw [decide_eq_false hlt]
        show KasT.kasWp cmp (if false = true then _ else kas_place p a f ((l + r) / 2 + 1) r) Q s'
        rw [if_neg (by decide)]
        refine place_ok hc hp ha hs k f ((l + r) / 2 + 1) r s' (by lia  ) (by lia  ) (by lia  ) (fun i h6 => ?_) h5 hP'
        exact Nat.le_trans (hs i ((l + r) / 2) (by lia  ) (by lia  )) (by unfold KV; lia  )

theorem bin_ok (hc : CmpOk n key P cmp) {Q : Array Nat → Shared → Prop} (k : ∀ p s', PR n p → Srt key p n → P s' → Q p s') : ∀ (f : Nat) (p : Array Nat) (a : Nat) (s : Shared), PR n p → a + f = n → Srt key p a → P s → (kas_bin f p a).kasWp cmp Q s
  | 0, p, a, s, hp, hn, hs, hP => k p s hp (by have : a = n := by lia  
                                               subst this; exact hs) hP
  | f + 1, p, a, s, hp, hn, hs, hP => by
    unfold kas_bin
    rw [KasT.kasWp_bind]
    refine place_ok hc hp (by lia  ) hs (fun m s' h1 h2 h3 hP' => ?_) a 0 a s (by lia  ) (by lia  ) (by lia  ) (fun i hi => by lia  ) (fun i h1 h2 => by lia  ) hP
    have hV := KV_bub (key := key) (p := p) (src := a) (d := a - m) (by rw [hp.size]; lia  ) (by lia  )
    have e1 : a - (a - m) = m := by lia  
    rw [e1] at hV
    refine bin_ok hc k f _ (a + 1) s' (hp.bub _ _) (by lia  ) (fun i j hij hj => ?_) hP'
    rw [hV, hV]
    by_cases c1 : i = m
    · rw [if_pos c1]
      by_cases c2 : j = m
      · rw [if_pos c2]; exact Nat.le_refl _
      · rw [if_neg c2]
        by_cases c3 : m < j ∧ j ≤ a
        · rw [if_pos c3]; exact h3 _ (by lia  ) (by lia  )
        · lia  
    · rw [if_neg c1]
      by_cases c4 : m < i ∧ i ≤ a
      · rw [if_pos c4]
        have c2 : ¬ j = m := by lia  
        rw [if_neg c2, if_pos (by lia  )]
        exact hs _ _ (by lia  ) (by lia  )
      · rw [if_neg c4]
        by_cases c2 : j = m
        · rw [if_pos c2]; exact h2 _ (by lia  )
        · rw [if_neg c2]
          by_cases c3 : m < j ∧ j ≤ a
          · rw [if_pos c3]; exact hs _ _ (by lia  ) (by lia  )
          · rw [if_neg c3]; exact hs _ _ hij (by lia  )

theorem sort_ok (hc : CmpOk n key P cmp) (h1 : 1 ≤ n) {Q : Array Nat → Shared → Prop} {s : Shared} (hP : P s) (k : ∀ p s', PR n p → Srt key p n → P s' → Q p s') : (kas_sort n).kasWp cmp Q s := by
  unfold kas_sort
  rw [KasT.kasWp_bind]
  refine count_ok hc (Array.Perm.refl _) h1 hP fun p m s' g1 g2 g3 g4 g5 => ?_
  show KasT.kasWp cmp (if m < n then kas_bin (n - max m 1) p (max m 1) else .ret p) Q s'
  have e : max m 1 = m := by lia  
  rw [e]
  split
  · exact bin_ok hc k _ p m s' g1 (by lia  ) g4 g5
  · have : m = n := by lia  
    subst this
    exact k p s' g1 g4 g5
end
end Mine
end

section
open PySem PySem.W PyProof.Rows PySem.Calls
set_option linter.unusedVariables false
set_option maxRecDepth 100000
namespace Mine

section
variable {prog : Program} {w : World} {A : Around} {E : Value → Shared → Prop} {s : Shared}
theorem list_sort_kas {a : Addr} {vs : List Value} {n : Nat} {κ : SortKind} {key : Nat → Nat} {P : PySem.Fin → Shared → Prop} (ho : s.heap.get? a = some (seqObj "list" vs.toArray n)) (h64 : vs.length < 64)
    (hkind : ∀ (h' : Heap) (Q : SortKind → Shared → Prop), 2 ≤ vs.length → (∀ b o, b ≠ a → s.heap.get? b = some o → h'.get? b = some o) → Q κ { s with heap := h' } → wpAny (model prog w) A (keyKind' vs.toArray) Q E { s with heap := h' })
    (hcmp : ∀ (h' : Heap) i j (C : Bool → Shared → Prop), (∀ b o, b ≠ a → s.heap.get? b = some o → h'.get? b = some o) → i < vs.length → j < vs.length → C (decide (key i < key j)) { s with heap := h' } → kas_ask prog w A κ vs i j C { s with heap := h' })
    (h : ∀ p, PR vs.length p → Srt key p vs.length → P (.done (.ret .none)) { s with heap := sortedHeap s.heap a vs (p.toList.map fun i => vs.getD i Value.none).toArray }) :
    wpAny (model prog w) A (Builtin.«list.sort» ⟨[.ref a], []⟩) P E s := by
  rw [list_sort_plain]
  have ha : a < s.heap.objs.size := Heap.lt_size ho
  refine wpAny_bind (listItems_at ho rfl ?_)
  refine wpAny_bind (listUpdate_at ho rfl ?_ (by rw [List.size_toArray, sizeLine_eq]; lia  ) (Nat.zero_le _))
  obtain ⟨e1, ho1⟩ : ∃ e1, (s.heap.update a (Obj.mapSeq fun _ => #[])).get? a = some (seqObj "list" #[] e1) := ⟨_, get?_update_seq ho (fun _ => #[])⟩
  refine wpAny_bind (seqEpoch_at ho1 rfl ?_)
  refine wpAny_bind (wpAny_newTuple ?_ (by show vs.length ≤ _; rw [sizeLine_eq]; lia  ))
  refine wpAny_bind (wpAny_newList ?_ (Nat.zero_le _))
  refine wpAny_holding ?_
  have ho6 : (((s.heap.update a (Obj.mapSeq fun _ => #[])).push (seqObj "tuple" vs.toArray 0)).push (seqObj "list" #[] 0)).get? a = some (seqObj "list" #[] e1) := Heap.get?_push_of_some _ (Heap.get?_push_of_some _ ho1)
  have keep : ∀ b o, b ≠ a → s.heap.get? b = some o → (((s.heap.update a (Obj.mapSeq fun _ => #[])).push (seqObj "tuple" vs.toArray 0)).push (seqObj "list" #[] 0)).get? b = some o := fun b o hb e =>
    Heap.get?_push_of_some _ (Heap.get?_push_of_some _ (((Heap.SameBut.update s.heap a (Obj.mapSeq fun _ => (#[] : Array Value))).2 b hb).trans e))
  show wpAny (model prog w) A _ P E { s with heap := ((s.heap.update a (Obj.mapSeq fun _ => #[])).push (seqObj "tuple" vs.toArray 0)).push (seqObj "list" #[] 0) }
  dsimp only
  have hsz : vs.toArray.size = vs.length := by simp
  by_cases h2 : vs.toArray.size < 2
  · rw [if_pos h2, if_pos h2]
    refine wpAny_bind (wpAny_pure ?_)
    rw [StateT.run_pure]
    refine wpAny_bind (wpAny_pure ?_)
    dsimp only
    have e0 : (arrOf (SortSt.mk' general' (vs.toArray.zip vs.toArray) #[] 7 none)).map (·.2) = (((List.range vs.length).toArray.toList.map fun i => vs.getD i Value.none)).toArray := by
      show (vs.toArray.zip vs.toArray).map (·.2) = _
      apply Array.toList_inj.mp
      apply List.ext_getElem
      · simp
      · intro i h1 h2
        have : i < vs.length := by simpa using h1
        simp [this]
    refine wpAny_bind (seqEpoch_at ho6 rfl ?_)
    refine wpAny_bind (listUpdate_at ho6 rfl ?_ (Nat.zero_le _) (by rw [e0, sizeLine_eq]; simp; lia  ))
    simp only [bne_self_eq_false, Bool.false_eq_true, if_false]
    refine wpAny_pure ?_
    rw [e0]
    exact h _ (Array.Perm.refl _) (fun i j hij hj => by have : i = j := by lia  
                                                        subst this; exact Nat.le_refl _)
  · rw [if_neg h2, if_neg h2]
    refine wpAny_bind (hkind _ _ (by lia  ) keep ?_)
    refine wpAny_bind (wpAny_mono (kat_run (ks := vs) (vs := vs) (κ := κ) (G := fun p s' => PR vs.length p ∧ Srt key p vs.length ∧ s' = { s with heap := ((s.heap.update a (Obj.mapSeq fun _ => #[])).push (seqObj "tuple" vs.toArray 0)).push (seqObj "list" #[] 0) })
      (Q := fun st' s' => ∃ p : Array Nat, PR vs.length p ∧ Srt key p vs.length ∧ arrOf st' = p.map (kas_item (vs.toArray.zip vs.toArray)) ∧ failedOf st' = none ∧ s' = { s with heap := ((s.heap.update a (Obj.mapSeq fun _ => #[])).push (seqObj "tuple" vs.toArray 0)).push (seqObj "list" #[] 0) })
      rfl (by lia  ) h64 (fun p' st' s' a1 a2 a3 a4 => ⟨p', a4.1, a4.2.1, a2, a3, a4.2.2⟩) ?_) ?_ fun _ _ e => e)
    · refine sort_ok (key := key) (P := fun s' => s' = { s with heap := ((s.heap.update a (Obj.mapSeq fun _ => #[])).push (seqObj "tuple" vs.toArray 0)).push (seqObj "list" #[] 0) }) ?_ (by lia  ) rfl fun p s' g1 g2 g3 => ⟨g1, g2, g3⟩
      rintro i j C s' hi hj rfl k
      exact hcmp _ i j C keep hi hj (k _ rfl)
    rintro ⟨⟨⟩, st'⟩ s' ⟨p, hp, hs, har, hf, rfl⟩
    dsimp only
    have hout := kat_snds (ks := vs) (vs := vs) rfl har
    refine wpAny_bind (seqEpoch_at ho6 rfl ?_)
    rw [hout]
    refine wpAny_bind (listUpdate_at ho6 rfl ?_ (Nat.zero_le _) (by rw [List.size_toArray, List.length_map, Array.length_toList, hp.size, sizeLine_eq]; lia  ))
    rw [hf]
    simp only [bne_self_eq_false, Bool.false_eq_true, if_false]
    exact wpAny_pure (h p hp hs)

theorem sorted_kas {l : Addr} {vs : List Value} {κ : SortKind} {key : Nat → Nat} {Q : Value → Shared → Prop} (hl : s.heap.IsList l vs.toArray) (h64 : vs.length < 64)
    (hkind : ∀ (h' : Heap) (Q : SortKind → Shared → Prop) (A' : Around) (E' : Value → Shared → Prop), 2 ≤ vs.length → (∀ b o, s.heap.get? b = some o → h'.get? b = some o) → Q κ { s with heap := h' } → wpAny (model prog w) A' (keyKind' vs.toArray) Q E' { s with heap := h' })
    (hcmp : ∀ (h' : Heap) (A' : Around) i j (C : Bool → Shared → Prop), (∀ b o, s.heap.get? b = some o → h'.get? b = some o) → i < vs.length → j < vs.length → C (decide (key i < key j)) { s with heap := h' } → kas_ask prog w A' κ vs i j C { s with heap := h' })
    (h : ∀ p, PR vs.length p → Srt key p vs.length → Q (.ref (s.heap.objs.size + 1)) { s with heap := sortedAll s.heap vs (p.toList.map fun i => vs.getD i Value.none).toArray }) :
    wpAny (model prog w) A (call (.builtin "sorted") [.ref l]) Q E s := by
  refine Calls.call_function_entry kind_sorted plain_sorted entry_sorted (args_sorted1 _) ?_
  unfold Builtin.«sorted»
  refine wpAny_bind (m := checkCount "sorted" 1 1 _) (wpAny_pure ?_)
  refine wpAny_bind (collect_list hl ?_ (by rw [sizeLine_eq]; lia  ))
  refine wpAny_bind (wpAny_newList ?_ (by rw [sizeLine_eq]; lia  ))
  have hsz : ((s.heap.push (seqObj "list" #[] 0)).update s.heap.objs.size (Obj.mapSeq (· ++ vs.toArray))).objs.size = s.heap.objs.size + 1 := by
    rw [Heap.size_update, size_push']
  have hoL : (((s.heap.push (seqObj "list" #[] 0)).update s.heap.objs.size (Obj.mapSeq (· ++ vs.toArray))).push (seqObj "list" vs.toArray 0)).get? (s.heap.objs.size + 1) = some (seqObj "list" vs.toArray 0) := by
    rw [← hsz]; exact Heap.get?_push_size _ rfl
  have keep : ∀ b o, s.heap.get? b = some o → (((s.heap.push (seqObj "list" #[] 0)).update s.heap.objs.size (Obj.mapSeq (· ++ vs.toArray))).push (seqObj "list" vs.toArray 0)).get? b = some o := fun b o q => by
    have hlt : b < s.heap.objs.size := Heap.lt_size q
    rw [Heap.get?_push_ne _ _ _ (by rw [hsz]; exact Nat.ne_of_lt (Nat.lt_succ_of_lt hlt)), Heap.get?_update_ne _ _ _ _ (Nat.ne_of_lt hlt), Heap.get?_push_ne _ _ _ (Nat.ne_of_lt hlt)]
    exact q
  have keep2 : ∀ (h' : Heap), (∀ b o, b ≠ s.heap.objs.size + 1 → (((s.heap.push (seqObj "list" #[] 0)).update s.heap.objs.size (Obj.mapSeq (· ++ vs.toArray))).push (seqObj "list" vs.toArray 0)).get? b = some o → h'.get? b = some o) → ∀ b o, s.heap.get? b = some o → h'.get? b = some o :=
    fun h' k b o e => k b o (Nat.ne_of_lt (Nat.lt_succ_of_lt (Heap.lt_size e))) (keep b o e)
  show wpAny _ _ _ _ _ { s with heap := ((s.heap.push (seqObj "list" #[] 0)).update s.heap.objs.size (Obj.mapSeq (· ++ vs.toArray))).push (seqObj "list" vs.toArray 0) }
  rw [hsz]
  refine wpAny_bind (wpAny_holding (wpAny_call_entry slot_list_sort ⟨_, hoL, rfl⟩ entry_list_sort (list_sort_kas (s := { s with heap := ((s.heap.push (seqObj "list" #[] 0)).update s.heap.objs.size (Obj.mapSeq (· ++ vs.toArray))).push (seqObj "list" vs.toArray 0) }) (κ := κ) (key := key) hoL h64
    (fun h' Q' h2 k hq => hkind h' Q' _ _ h2 (keep2 h' k) hq) (fun h' i j C k hi hj hC => hcmp h' _ i j C (keep2 h' k) hi hj hC) fun p a1 a2 => ⟨_, rfl, ?_⟩) (args_list_sort _)))
  exact wpAny_pure ⟨_, rfl, h p a1 a2⟩
end

-- three-tuples of two numbers and a text
noncomputable abbrev T3 := Int × Int × Str
noncomputable def tup (x : T3) : PyData := .tuple [.int x.1, .int x.2.1, .str x.2.2]
noncomputable abbrev lex (x y : T3) : Prop := x.1 < y.1 ∨ (x.1 = y.1 ∧ x.2.1 < y.2.1)
theorem lex_asymm {x y : T3} (h : lex x y) : ¬ lex y x := by unfold lex at *; lia  
theorem lex_irrefl (x : T3) : ¬ lex x x := by unfold lex; lia  
theorem eq_of_perm_lex : ∀ {l1 l2 : List T3}, l1.Perm l2 → l1.Pairwise lex → l2.Pairwise lex → l1 = l2
  | [], l2, h, _, _ => by simpa using h.symm
  | a :: l1, [], h, _, _ => by simpa using h
  | a :: l1, b :: l2, h, h1, h2 => by
    have hab : a = b := by
      have m1 : a ∈ b :: l2 := h.mem_iff.mp List.mem_cons_self
      have m2 : b ∈ a :: l1 := h.mem_iff.mpr List.mem_cons_self
      rcases List.mem_cons.mp m1 with e | e
      · exact e
      · rcases List.mem_cons.mp m2 with e' | e'
        · exact e'.symm
        · exact absurd ((List.pairwise_cons.mp h2).1 a e) (lex_asymm ((List.pairwise_cons.mp h1).1 b e'))
    subst hab
    rw [eq_of_perm_lex (List.Perm.cons_inv h) (List.pairwise_cons.mp h1).2 (List.pairwise_cons.mp h2).2]
theorem nodup_lex {l : List T3} (h : l.Pairwise lex) : l.Nodup := h.imp fun {a b} r e => by subst e; exact lex_irrefl _ r
theorem idx_lt {ys : List T3} (h : ys.Pairwise lex) {a b : T3} (ha : a ∈ ys) (hb : b ∈ ys) : (ys.idxOf a < ys.idxOf b) ↔ lex a b := by
  have hi := List.idxOf_lt_length_iff.mpr ha
  have hj := List.idxOf_lt_length_iff.mpr hb
  have ea : ys[ys.idxOf a] = a := List.getElem_idxOf hi
  have eb : ys[ys.idxOf b] = b := List.getElem_idxOf hj
  have pw := List.pairwise_iff_getElem.mp h
  constructor
  · intro hlt
    have := pw _ _ hi hj hlt
    rwa [ea, eb] at this
  · intro r
    rcases Nat.lt_trichotomy (ys.idxOf a) (ys.idxOf b) with h1 | h1 | h1
    · exact h1
    · have : a = b := by rw [← ea, ← eb]; simp [h1]
      subst this; exact absurd r (lex_irrefl _)
    · have := pw _ _ hj hi h1
      rw [ea, eb] at this
      exact absurd r (lex_asymm this)
theorem den_tup {h : Heap} {X : AP} {x : T3} {v : Value} (e : Den h X (tup x) v) : ∃ a n t1 t2 t3, v = .ref a ∧ h.get? a = some (tupO [.int x.1 t1, .int x.2.1 t2, .str x.2.2 t3] n) := by
  obtain ⟨a, vs, n, rfl, ho, hd⟩ := denT_tuple (show DenT h X (tup x) v from e)
  unfold DenAll at hd
  obtain ⟨v1, r1, rfl, d1, hd⟩ := hd
  unfold DenAll at hd
  obtain ⟨v2, r2, rfl, d2, hd⟩ := hd
  unfold DenAll at hd
  obtain ⟨v3, r3, rfl, d3, hd⟩ := hd
  unfold DenAll at hd
  subst hd
  unfold Den at d1 d2 d3
  obtain ⟨t1, rfl⟩ := d1; obtain ⟨t2, rfl⟩ := d2; obtain ⟨t3, rfl⟩ := d3
  exact ⟨a, n, t1, t2, t3, rfl, ho⟩
theorem den_tups {h : Heap} {X : AP} : ∀ {xs : List T3} {vs : List Value}, DenAll h X (xs.map tup) vs → ∃ fs, KatTups h vs fs ∧ fs.length = xs.length ∧ ∀ v ∈ fs, ∃ i t, v = .int i t
  | [], _, e => by simp only [List.map_nil] at e; unfold DenAll at e; subst e; exact ⟨[], .nil, rfl, fun v hv => nomatch hv⟩
  | x :: xs, _, e => by
    simp only [List.map_cons] at e
    unfold DenAll at e
    obtain ⟨v, r, rfl, h1, h2⟩ := e
    obtain ⟨a, n, t1, t2, t3, rfl, ho⟩ := den_tup h1
    obtain ⟨fs, k1, k2, k3⟩ := den_tups h2
    refine ⟨.int x.1 t1 :: fs, .cons ho rfl rfl rfl k1, by simp [k2], fun v hv => ?_⟩
    rcases List.mem_cons.mp hv with rfl | hv
    · exact ⟨_, _, rfl⟩
    · exact k3 v hv
theorem den_at_tup {h : Heap} {X : AP} {xs : List T3} {vs : List Value} (e : DenAll h X (xs.map tup) vs) {i : Nat} (hi : i < xs.length) : ∃ v, vs[i]? = some v ∧ Den h X (tup xs[i]) v :=
  e.get i (tup xs[i]) (by simp [hi])
theorem den_pick {h : Heap} {X : AP} {xs : List T3} {vs : List Value} (e : DenAll h X (xs.map tup) vs) : ∀ l : List Nat, (∀ i ∈ l, i < xs.length) → DenAll h X ((l.map fun i => xs.getD i (0, 0, "")).map tup) (l.map fun i => vs.getD i Value.none)
  | [], _ => .nil
  | i :: l, hl => by
    have hi := hl i List.mem_cons_self
    obtain ⟨v, h1, h2⟩ := den_at_tup e hi
    have e1 : xs.getD i (0, 0, "") = xs[i] := by simp [hi]
    have e2 : vs.getD i Value.none = v := by simp [h1]
    simp only [List.map_cons, e1, e2]
    exact .cons h2 (den_pick e l fun j hj => hl j (List.mem_cons_of_mem _ hj))
theorem idx_inj {ys : List T3} {a b : T3} (ha : a ∈ ys) (hb : b ∈ ys) (h : ys.idxOf a = ys.idxOf b) : a = b := by
  have ex : ys[ys.idxOf a]'(List.idxOf_lt_length_iff.mpr ha) = a := List.getElem_idxOf _
  have ey : ys[ys.idxOf b]'(List.idxOf_lt_length_iff.mpr hb) = b := List.getElem_idxOf _
  rw [← ex, ← ey]
  congr 1
theorem lt_tup {prog : Program} {w : World} {A : Around} {E : Value → Shared → Prop} {s : Shared} {x y : T3} {a1 a2 n1 n2 : Nat} {t1 t2 t3 u1 u2 u3 : Tok} {C : Bool → Shared → Prop} (hxy : x.1 = y.1 → x.2.1 = y.2.1 → x.2.2 = y.2.2)
    (o1 : s.heap.get? a1 = some (tupO [.int x.1 t1, .int x.2.1 t2, .str x.2.2 t3] n1)) (o2 : s.heap.get? a2 = some (tupO [.int y.1 u1, .int y.2.1 u2, .str y.2.2 u3] n2)) (hC : C (decide (lex x y)) s) :
    wpAny (model prog w) A (keyLt' (tuples' (Value.type "int" != Value.type "tuple")) (.ref a1) (.ref a2)) C E s := by
  refine kat_lt o1 rfl o2 rfl ?_
  refine kat_cons (wpAny_eqBool_int ?_)
  by_cases c1 : x.1 = y.1
  · have : (x.1 == y.1) = true := by simpa using c1
    rw [this]
    refine kat_yes (kat_cons (wpAny_eqBool_int ?_))
    by_cases c2 : x.2.1 = y.2.1
    · have : (x.2.1 == y.2.1) = true := by simpa using c2
      rw [this]
      have n1 : ¬ lex x y := by unfold lex; lia  
      rw [decide_eq_false n1] at hC
      refine kat_yes (kat_cons (wpAny_eqBool_str ?_))
      rw [decide_eq_true (hxy c1 c2)]
      exact kat_yes (kat_nil hC)
    · have : (x.2.1 == y.2.1) = false := by simpa using c2
      rw [this]
      refine kat_no (kat_one _ _ (lt_int ?_))
      have : decide (lex x y) = decide (x.2.1 < y.2.1) := by unfold lex; simp [c1]
      rw [this] at hC
      exact hC
  · have : (x.1 == y.1) = false := by simpa using c1
    rw [this]
    refine kat_no (oneLt_int ?_)
    have : decide (lex x y) = decide (x.1 < y.1) := by unfold lex; simp [c1]
    rw [this] at hC
    exact hC
theorem op_sorted {A : Around} {xs ys : List T3} (hp : ys.Perm xs) (hs : ys.Pairwise lex) (h64 : xs.length < 64) : Op1 A (fun u => call (.builtin "sorted") [u]) (.list (xs.map tup)) (.list (ys.map tup)) := by
  intro prog w s h tk X u Q E hA hX h1 k
  obtain ⟨b, vs, n, rfl, ho, hd⟩ := denT_list h1
  have hl : vs.length = xs.length := by rw [hd.length, List.length_map]
  refine sorted_kas (s := St s h tk) (κ := tuples' (Value.type "int" != Value.type "tuple")) (key := fun i => ys.idxOf (xs.getD i (0, 0, ""))) ⟨_, ho, rfl, n, rfl⟩ (by lia  ) (fun h' Q' A' E' h2 keep hq => ?_) (fun h' A' i j C keep hi hj hC => ?_) (fun p hpr hsr => ?_)
  · obtain ⟨fs, k1, k2, k3⟩ := den_tups (hd.mono (.ext keep))
    refine kat_kind k1 (by lia  ) (T := .type "int") (fun v hv => ?_) (by decide) hq
    obtain ⟨i, t, rfl⟩ := k3 v hv
    exact .now
  · obtain ⟨v1, e1, d1⟩ := den_at_tup hd (i := i) (by lia  )
    obtain ⟨v2, e2, d2⟩ := den_at_tup hd (i := j) (by lia  )
    have d1' := d1.mono (f := Fits.ext (h' := h') keep)
    have d2' := d2.mono (f := Fits.ext (h' := h') keep)
    obtain ⟨a1, n1, t1, t2, t3, rfl, o1⟩ := den_tup d1'
    obtain ⟨a2, n2, u1, u2, u3, rfl, o2⟩ := den_tup d2'
    have g1 : vs.getD i Value.none = .ref a1 := by simp [e1]
    have g2 : vs.getD j Value.none = .ref a2 := by simp [e2]
    have f1 : xs.getD i (0, 0, "") = xs[i]'(by lia  ) := by simp [show i < xs.length by lia  ]
    have f2 : xs.getD j (0, 0, "") = xs[j]'(by lia  ) := by simp [show j < xs.length by lia  ]
    have hlt := idx_lt hs (a := xs[i]'(by lia  )) (b := xs[j]'(by lia  )) (hp.mem_iff.mpr (by simp)) (hp.mem_iff.mpr (by simp))
    unfold kas_ask
    rw [g1, g2]
    simp only [f1, f2] at hC
    rw [decide_eq_decide.mpr hlt] at hC
    refine lt_tup (fun c1 c2 => ?_) o1 o2 hC
    have mx : xs[i]'(by lia  ) ∈ ys := hp.mem_iff.mpr (by simp)
    have my : xs[j]'(by lia  ) ∈ ys := hp.mem_iff.mpr (by simp)
    have i1 := idx_lt hs mx my
    have i2 := idx_lt hs my mx
    have n1 : ¬ lex (xs[i]'(by lia  )) (xs[j]'(by lia  )) := by unfold lex; lia  
    have n2 : ¬ lex (xs[j]'(by lia  )) (xs[i]'(by lia  )) := by unfold lex; lia  
    rw [idx_inj mx my (Nat.le_antisymm (Nat.not_lt.mp (mt i2.mp n2)) (Nat.not_lt.mp (mt i1.mp n1)))]
  · have hrange : (List.range vs.length).map (fun i => xs.getD i (0, 0, "")) = xs := by
      apply List.ext_getElem
      · simp [hl]
      · intro i h1 h2; simp [h2]
    have hpl : p.toList.Perm (List.range vs.length) := by simpa using hpr.toList
    have hperm : (p.toList.map fun i => xs.getD i (0, 0, "")).Perm ys := by
      have := hpl.map (fun i => xs.getD i (0, 0, ""))
      rw [hrange] at this
      exact this.trans hp.symm
    have hnd : (p.toList.map fun i => xs.getD i (0, 0, "")).Nodup := hperm.nodup_iff.mpr (nodup_lex hs)
    have hpw : (p.toList.map fun i => xs.getD i (0, 0, "")).Pairwise lex := by
      refine List.pairwise_iff_getElem.mpr fun i j hi hj hij => ?_
      have hi' : i < p.size := by simpa using hi
      have hj' : j < p.size := by simpa using hj
      have hle := hsr i j (Nat.le_of_lt hij) (by rw [hpr.size] at hj'; exact hj')
      unfold KV at hle
      have ei : p.getD i 0 = p[i] := by simp [Array.getD, hi']
      have ej : p.getD j 0 = p[j] := by simp [Array.getD, hj']
      rw [ei, ej] at hle
      have gi : (p.toList.map fun i => xs.getD i (0, 0, ""))[i] = xs.getD p[i] (0, 0, "") := by simp
      have gj : (p.toList.map fun i => xs.getD i (0, 0, ""))[j] = xs.getD p[j] (0, 0, "") := by simp
      have mi : (p.toList.map fun i => xs.getD i (0, 0, ""))[i] ∈ ys := hperm.mem_iff.mp (List.getElem_mem _)
      have mj : (p.toList.map fun i => xs.getD i (0, 0, ""))[j] ∈ ys := hperm.mem_iff.mp (List.getElem_mem _)
      refine (idx_lt hs mi mj).mp ?_
      have hne : (p.toList.map fun i => xs.getD i (0, 0, ""))[i] ≠ (p.toList.map fun i => xs.getD i (0, 0, ""))[j] := fun q => by
        have := (List.getElem_inj hnd).mp q
        lia  
      rw [gi, gj]
      rw [gi] at mi; rw [gj] at mj; rw [gi, gj] at hne
      have hle : ys.idxOf (xs.getD p[i] (0, 0, "")) ≤ ys.idxOf (xs.getD p[j] (0, 0, "")) := hle
      rcases Nat.lt_or_ge (ys.idxOf (xs.getD p[i] (0, 0, ""))) (ys.idxOf (xs.getD p[j] (0, 0, ""))) with q | q
      · exact q
      · exfalso
        exact hne (idx_inj mi mj (by lia  ))
    have heq := eq_of_perm_lex hperm hpw hs
    obtain ⟨e, hat⟩ := sortedAll_at h vs (p.toList.map fun i => vs.getD i Value.none).toArray
    have hgr : Gr h (sortedAll h vs (p.toList.map fun i => vs.getD i Value.none).toArray) := fun b o e => sortedAll_old e
    refine k _ _ tk hgr ?_
    have dd := den_pick hd p.toList fun i hi => by
      have := hpl.mem_iff.mp hi
      rw [← hl]; simpa using this
    rw [heq] at dd
    unfold Den
    refine ⟨_, _, e, rfl, fun q => ?_, hat, dd.mono (.ext hgr)⟩
    obtain ⟨ob, q⟩ := hX _ q
    exact absurd (Heap.lt_size q) (Nat.not_lt.mpr (Nat.le_succ _))
end Mine
end

section
open PySem PySem.W PyProof.Rows PySem.Calls
open PySem.Builtin PySem.Builtin.Str
set_option linter.unusedVariables false
set_option maxRecDepth 100000
namespace Mine
section
variable {c : Cx} {A : Around} {s : Shared} {d : List (Str × LV)} {o : List (Addr × OV)} {ts : List (Value × LV)} {Q : Flow → Shared → Prop} {E : Value → Shared → Prop} {fa : Str → Addr} {mg mb : Str → Option Value}

theorem CompOk.of {scope : Scope} {cl : List (Str × Addr)} {iter : Expr} {d₀ : List (Str × LV)} (clos : closureFor scope c.env = pure cl) (cap : Capt c scope cl d d₀)
    (cl' : cl.map (fun q => c.env.cells.lookup q.1) = cl.map (fun q => some q.2) := by rfl) (nd : decide ((cl.map (·.1)).Nodup) = true := by rfl)
    (names : (scope.names.all fun x => !(x.2 == .local) || (scope.names.lookup x.1 == some .local)) = true := by rfl)
    (cf : (scope.names.all fun x => !(x.2 == .cell) || (scope.names.lookup x.1 == some .cell)) = true := by rfl)
    (kind : scope.kind = .function := by rfl) (folded : ∀ x, foldedSetIterable iter c.env x = pure x := by intro _; rfl) : CompOk c scope cl iter d d₀ where
  clos := clos
  kind := kind
  names := fun x hx hl => by
    have := List.all_eq_true.mp names x hx
    rw [hl] at this
    simpa using this
  cl' := fun n a hm => by
    have : ∀ l : List (Str × Addr), l.map (fun q => c.env.cells.lookup q.1) = l.map (fun q => some q.2) → (n, a) ∈ l → c.env.cells.lookup n = some a := by
      intro l; induction l with
      | nil => intro _ h; cases h
      | cons q r ih =>
        intro h1 h2
        simp only [List.map_cons, List.cons.injEq] at h1
        rcases List.mem_cons.mp h2 with h2 | h2
        · subst h2; exact h1.1
        · exact ih h1.2 h2
    exact this cl cl' hm
  nd := of_decide_eq_true nd
  cap := cap
  cf := fun n hm => by
    have := List.all_eq_true.mp cf _ hm
    simpa using this
  folded := folded
theorem Capt.nil {scope : Scope} {cl : List (Str × Addr)} : Capt c scope cl d [] := fun _ _ e => nomatch e
theorem Capt.cons {scope : Scope} {cl : List (Str × Addr)} {n : Str} {lv : LV} {r : List (Str × LV)} (h : Capt c scope cl d r) (h1 : d.lookup n = some lv := by rfl) (h2 : (cellsFrom 0 scope.names []).lookup n = none := by rfl) (h3 : (cl.lookup n).isSome = true := by rfl)
    (h4 : ((relabel scope c.env).names.lookup n == some .local) = false := by rfl) (h5 : (c.env.kindOf n == some .local) = false := by rfl) : Capt c scope cl d ((n, lv) :: r) := fun m lw e => by
  rw [List.lookup_cons] at e
  cases hb : m == n with
  | true =>
    rw [hb] at e
    cases e
    rw [eq_of_beq hb]
    exact ⟨h1, h2, h3, fun q => (by rw [q] at h4; exact absurd h4 (by decide)), fun q => (by rw [q] at h5; exact absurd h5 (by decide))⟩
  | false => rw [hb] at e; exact h m lw e

theorem Exs.forFC {x : Str} {px pos : Pos} {iter : Expr} {body rest : List Stmt} {l0 : LV} {items : List LV} (dF : List LV → List (Str × LV)) (oF : List LV → List (Addr × OV)) (B : List (Str × LV) → List (Addr × OV) → Prop)
    (H : EvP c A s d o iter l0) {K : Obj → Prop} (hit : IterTo c A s d o l0 items K) (h0 : Sub (dF []) d) (h1 : o = oF [])
    (step : ∀ done y rest' I ob ts', items = done ++ y :: rest' → Exs c A s ((x, y) :: dF done) ((I, .raw ob) :: oF done) ts' body (LoopQ c s ts' I ob (JF dF oF (done ++ [y])) B Q) NoE)
    (fin : Exs c A s (dF items) (oF items) ts rest Q E) (bfin : ∀ d' o', B d' o' → Exs c A s d' o' ts rest Q E)
    (hs : ∀ x, foldedSetIterable iter c.env x = pure x := by intro _; rfl) (hg : ∀ it v, letOwnedTupleGo (.Name x px) it v = pure () := by intro _ _; rfl)
    (hx : c.env.kindOf x = some .cell := by rfl) (hc : (c.env.cells.lookup x).isSome = true := by rfl) (ho : c.own x = true := by rfl) (hk : c.env.scope.kind = .function := by rfl) :
    Exs c A s d o ts (.For (.Name x px) iter body [] pos :: rest) Q E := by
  refine Exs.forL (fun y d => (x, y) :: d) (JF dF oF) B H hit (fun y d' _ => Tgt.cel hx hc ho hk) ⟨h0, h1⟩ (fun done y rest' d' o' I ob ts' e j => ?_) (fun d' o' j => ?_) bfin hs hg
  · obtain ⟨j1, rfl⟩ := j
    exact (step done y rest' I ob ts' e).sub j1.both
  · obtain ⟨j1, rfl⟩ := j
    exact Exs.nilS (fin.sub j1)

theorem EvP.rng1 {np pos : Pos} {e : Expr} {n : Int} (T : Tp fa mg mb c.g) (H : EvP c A s d o e (.p (.int n)))
    (hk : c.env.scope.kind = .function := by rfl) (hx : c.env.kindOf "range" = some .globalImplicit := by rfl) (hgl : c.env.globals = mainGlobals := by rfl) (hbl : c.env.builtins = builtinsNs := by rfl)
    (he : starEach [e] c.env = [(false, eval e c.env)] := by rfl) : EvP c A s d o (.Call (.Name "range" np) [e] [] pos) (.rng 0 n) := by
  intro ts h tk Q E C kk
  have T1 := C.tp T
  have hm : (("range" : Str), Value.type "range") ∈ bltTable := by first | with_reducible exact mBa | with_reducible exact mBb | with_reducible exact mBc | with_reducible exact mBd | with_reducible exact mBe | with_reducible exact mBf | with_reducible exact mBg | with_reducible exact mBh | with_reducible exact mBi | with_reducible exact mBj | with_reducible exact mBk | with_reducible exact mBl | with_reducible exact mBm | with_reducible exact mBn
  refine Call_ (wp_blt (hgl ▸ T1.G) (T1.bt _ hm).1 (hbl ▸ T1.B) (T1.bt _ hm).2 ?_ hk hx (by decide))
  refine callWith_type1 (args_cons (H _ _ _ _ _ C fun u h1 t1 C1 => args_nil ?_) he) he
  obtain ⟨X, m, cm, C1⟩ := C1
  have e1 : Den h1 X (.int n) u := C1.tmps (u, .p (.int n)) (by simp)
  unfold Den at e1
  obtain ⟨t, rfl⟩ := e1
  refine call_range_1 ?_
  refine kk _ _ _ ⟨X, m, cm, ((C1.sub_ts fun q hq => List.mem_cons_of_mem _ hq).ext gr_push).push ?_⟩
  exact ⟨_, _, rfl, freshX C1.dom, Heap.get?_push_size _ rfl, _, _, _, rfl⟩
theorem EvP.rng2 {np pos : Pos} {e e' : Expr} {a b : Int} (T : Tp fa mg mb c.g) (H : EvP c A s d o e (.p (.int a))) (H' : EvP c A s d o e' (.p (.int b)))
    (hk : c.env.scope.kind = .function := by rfl) (hx : c.env.kindOf "range" = some .globalImplicit := by rfl) (hgl : c.env.globals = mainGlobals := by rfl) (hbl : c.env.builtins = builtinsNs := by rfl)
    (he : starEach [e, e'] c.env = [(false, eval e c.env), (false, eval e' c.env)] := by rfl) (he' : starEach [e'] c.env = [(false, eval e' c.env)] := by rfl) : EvP c A s d o (.Call (.Name "range" np) [e, e'] [] pos) (.rng a b) := by
  intro ts h tk Q E C kk
  have T1 := C.tp T
  have hm : (("range" : Str), Value.type "range") ∈ bltTable := by first | with_reducible exact mBa | with_reducible exact mBb | with_reducible exact mBc | with_reducible exact mBd | with_reducible exact mBe | with_reducible exact mBf | with_reducible exact mBg | with_reducible exact mBh | with_reducible exact mBi | with_reducible exact mBj | with_reducible exact mBk | with_reducible exact mBl | with_reducible exact mBm | with_reducible exact mBn
  refine Call_ (wp_blt (hgl ▸ T1.G) (T1.bt _ hm).1 (hbl ▸ T1.B) (T1.bt _ hm).2 ?_ hk hx (by decide))
  refine callWith_type1 (args_cons (H _ _ _ _ _ C fun u h1 t1 C1 => args_cons (H' _ _ _ _ _ C1 fun v h2 t2 C2 => args_nil ?_) he') (by rw [he, he'])) (by rw [he, he']) (by rw [he']; rfl)
  obtain ⟨X, m, cm, C2⟩ := C2
  have e1 : Den h2 X (.int a) u := C2.tmps (u, .p (.int a)) (by simp)
  have e2 : Den h2 X (.int b) v := C2.tmps (v, .p (.int b)) (by simp)
  unfold Den at e1 e2
  obtain ⟨t, rfl⟩ := e1
  obtain ⟨t', rfl⟩ := e2
  refine call_range_2 ?_
  refine kk _ _ _ ⟨X, m, cm, ((C2.sub_ts fun q hq => List.mem_cons_of_mem _ (List.mem_cons_of_mem _ hq)).ext gr_push).push ?_⟩
  exact ⟨_, _, rfl, freshX C2.dom, Heap.get?_push_size _ rfl, _, _, _, rfl⟩

theorem assign_tup {es : List Expr} {kk : Nat} {tp : Pos} {v : Value} {h : Heap} {tk : Nat} {ps : List PyData} {R : Unit → Shared → Prop} (hh : A.handled = none) (C1 : Cfg c d o ((v, .p (.tuple ps)) :: ts) h)
    (hn : (assignEach es c.env).length = ps.length) (hstar : (assignEach es c.env).findIdx? (·.1) = none)
    (tg : ∀ (vs : List Value) (h : Heap) (tk : Nat), vs.length = ps.length → Cfg c d o (vs.zip (ps.map .p) ++ ts) h → wpAny (model c.prog c.w) A (assignInOrder ((assignEach es c.env).map (·.2)) vs) R E (St s h tk)) :
    wpAny (model c.prog c.w) A (assign (.Tuple es kk tp) c.env v) R E (St s h tk) := by
  obtain ⟨X, m, cm, C1⟩ := C1
  obtain ⟨a, vs, n, rfl, ho, hd⟩ := denT_tuple (C1.rd (p := .tuple ps) (v := v) .pd (by simp))
  have hl := hd.length
  refine assign_Tuple_tuple (items := vs.toArray) hh ⟨_, ho, rfl, n, rfl⟩ (by rw [hn]; simp [hl]) hstar fun h' he => ?_
  have C2 : CfgI c X m cm d o ((.ref a, .p (.tuple ps)) :: ts) h' := C1.ext fun b ob e => he b ob (Nat.ne_of_lt (Heap.lt_size e)) e
  have C3 : Cfg c d o (vs.zip (ps.map .p) ++ ts) h' := ⟨X, m, cm, C2.withTs fun q hq => (List.mem_append.mp hq).elim (fun r => (DenAll.zip (P := .p) (fun _ _ _ e => e) (hd.mono (.ext fun b ob e => he b ob (Nat.ne_of_lt (Heap.lt_size e)) e))) q r) fun r => C2.tmps q (List.mem_cons_of_mem _ r)⟩
  exact tg vs h' tk hl C3
theorem letgo_list {es : List Expr} {kk : Nat} {tp : Pos} {I a : Addr} {ob : Obj} {h : Heap} {tk : Nat} {R : Unit → Shared → Prop} {M : Model} (ho : h.get? I = some ob) (hcls : ob.cls = .type "list_iterator") (k : R () (St s h tk)) :
    wpAny M A (letOwnedTupleGo (.Tuple es kk tp) (.ref I) (.ref a)) R E (St s h tk) := by
  unfold letOwnedTupleGo
  refine wpAny_bind (wpAny_load (s := St s h tk) ho ?_)
  obtain ⟨cls, dict, data, slots⟩ := ob
  simp only at hcls
  subst hcls
  cases data with
  | fields vs =>
    have e : (["enumerate", "zip", "dict_itemiterator", "dict_reverseitemiterator", "odict_iterator", "itertools.zip_longest", "itertools.pairwise"].contains "list_iterator") = false := by decide
    simp only [e, Bool.false_and, Bool.false_eq_true, if_false]
    exact wpAny_pure k
  | _ => exact wpAny_pure k
theorem CTgt.tup3 {x y z : Str} {px py pz tp : Pos} {kk : Nat} {p q r : PyData} (hh : A.handled = none) (hx : c.env.kindOf x = some .local := by rfl) (hy : c.env.kindOf y = some .local := by rfl) (hz : c.env.kindOf z = some .local := by rfl) (hk : c.env.scope.kind = .function := by rfl) :
    CTgt c A s (.Tuple [.Name x px, .Name y py, .Name z pz] kk tp) (.p (.tuple [p, q, r])) d ((z, .p r) :: (y, .p q) :: (x, .p p) :: d) := by
  intro I ob o ts v h tk Q E hcls C k
  have go : wpAny (model c.prog c.w) A (assign (.Tuple [.Name x px, .Name y py, .Name z pz] kk tp) c.env v) Q E (St s h tk) := by
    refine assign_tup hh C rfl rfl fun vs h1 t1 hl C1 => ?_
    obtain ⟨a, b, e, rfl⟩ := list3 hl
    refine assignInOrder_cons (Tgt.loc hx hk _ _ _ _ _ _ _ C1 fun h1 t1 C1 => assignInOrder_cons (Tgt.loc hy hk _ _ _ _ _ _ _ C1 fun h2 t2 C2 => assignInOrder_cons (Tgt.loc hz hk _ _ _ _ _ _ _ C2 fun h3 t3 C3 => assignInOrder_nil (k _ _ C3))))
  rcases hcls with hcls | hcls
  · obtain ⟨X, m, cm, C1⟩ := C
    obtain ⟨a, vs, n, rfl, ho, hd⟩ := denT_tuple (C1.rd (p := .tuple [p, q, r]) (v := v) .pd (by simp))
    exact letgo_list (C1.owns (I, .raw ob) (by simp)).1 hcls go
  · rw [hcls]; exact wpAny_pure go
end
end Mine
end

section
open PySem PySem.W PyProof.Rows PySem.Calls
open PySem.Builtin PySem.Builtin.Str
set_option linter.unusedVariables false
set_option maxRecDepth 100000
namespace Mine

/-- the rows of the texts, each once -/
noncomputable def rowsAdd (acc : List (List Str)) (x : Str) : List (List Str) := if (!(acc.contains (rowV x))) = true then acc ++ [rowV x] else acc
noncomputable def rowsV (texts : List Str) : List (List Str) := texts.foldl rowsAdd []
noncomputable def below (r one : List Str) : Bool := decide (r.length < one.length) && (one.take r.length == r)
noncomputable def endsV (rows : List (List Str)) : List (List Str) := rows.filter fun r => (rows.filter (below r)).isEmpty
noncomputable def spell (r : List Str) : Str := r.head?.getD "" ++ Str.join slash r.tail
/-- what end k adds, up to size j -/
noncomputable def dueOne (ends : List (List Str)) (k j : Nat) : List T3 :=
  if ((ends.drop (k + 1)).filter fun one => one.take (j + 1) == (ends.getD k []).take (j + 1)).isEmpty = true then [((k : Int), -((j + 1 : Nat) : Int), spell ((ends.getD k []).take (j + 1)))] else []
noncomputable def dueAtN (ends : List (List Str)) (k j : Nat) : List T3 := (List.range j).flatMap (dueOne ends k)
noncomputable def dueAt (ends : List (List Str)) (k : Nat) : List T3 := dueAtN ends k (ends.getD k []).length
noncomputable def dueN (ends : List (List Str)) (k : Nat) : List T3 := (List.range k).flatMap (dueAt ends)
noncomputable def dueL (ends : List (List Str)) : List T3 := dueN ends ends.length
theorem dueAtN_succ (ends : List (List Str)) (k j : Nat) : dueAtN ends k (j + 1) = dueAtN ends k j ++ dueOne ends k j := by unfold dueAtN; rw [List.range_succ, List.flatMap_append]; simp
theorem dueN_succ (ends : List (List Str)) (k : Nat) : dueN ends (k + 1) = dueN ends k ++ dueAt ends k := by unfold dueN; rw [List.range_succ, List.flatMap_append]; simp
theorem rng_snoc {n : Nat} {f : Nat → LV} {done : List LV} {y : LV} {rest : List LV} (e : (List.range n).map f = done ++ y :: rest) : done.length < n ∧ y = f done.length := by
  have h1 := congrArg List.length e
  simp at h1
  have h2 := congrArg (fun l => l[done.length]?) e
  simp at h2
  have h3 : done.length < n := by lia  
  refine ⟨h3, ?_⟩
  simp [h3] at h2
  exact h2.symm
theorem dueN_len (ends : List (List Str)) (k : Nat) (hk : k ≤ ends.length) : (dueN ends k).length ≤ (dueL ends).length := by
  have : ∀ j, (dueN ends k).length ≤ (dueN ends (k + j)).length := by
    intro j; induction j with
    | zero => exact Nat.le_refl _
    | succ j ih => rw [← Nat.add_assoc, dueN_succ, List.length_append]; lia  
  have := this (ends.length - k)
  rwa [Nat.add_sub_cancel' hk] at this
theorem dueAtN_len (ends : List (List Str)) (k j m : Nat) (hj : j ≤ m) : (dueAtN ends k j).length ≤ (dueAtN ends k m).length := by
  have : ∀ i, (dueAtN ends k j).length ≤ (dueAtN ends k (j + i)).length := by
    intro i; induction i with
    | zero => exact Nat.le_refl _
    | succ i ih => rw [← Nat.add_assoc, dueAtN_succ, List.length_append]; lia  
  have := this (m - j)
  rwa [Nat.add_sub_cancel' hj] at this
theorem due_part (ends : List (List Str)) (k j : Nat) (hk : k < ends.length) (hj : j ≤ (ends.getD k []).length) : (dueN ends k ++ dueAtN ends k j).length ≤ (dueL ends).length := by
  have h1 := dueN_len ends (k + 1) hk
  have h2 := dueAtN_len ends k j _ hj
  rw [dueN_succ, List.length_append] at h1
  rw [List.length_append]
  unfold dueAt at h1
  lia  
noncomputable def sp3 : LV → PyData
  | .p (.tuple [_, _, r]) => r
  | _ => .none
noncomputable def up3 : LV → List (Str × LV) → List (Str × LV)
  | .p (.tuple [p, q, r]), d => (Str.ofString "spelled", .p r) :: (Str.ofString "size", .p q) :: (Str.ofString "k", .p p) :: d
  | _, d => d
noncomputable def ls : LV → List Str
  | .p (.list ps) => ps.map fun p => match p with | .str x => x | _ => ""
  | _ => []
theorem ls_SL (r : List Str) : ls (.p (SL r)) = r := by
  show (r.map PyData.str).map _ = r
  rw [List.map_map]
  exact (List.map_congr_left fun x _ => rfl).trans (List.map_id _)
theorem rows_filter (N : List (List Str)) (P : List Str → Bool) : (((N.map SL).map LV.p).filter fun z => P (ls z)).map (fun z => SL (ls z)) = (N.filter P).map SL := by
  induction N with
  | nil => rfl
  | cons r N ih =>
    simp only [List.map_cons, List.filter_cons, ls_SL]
    cases P r with
    | true => simp only [if_true, List.map_cons, ls_SL]; rw [ih]
    | false => simpa using ih
theorem rows_mem {N : List (List Str)} {y : LV} (h : y ∈ (N.map SL).map LV.p) : ∃ r ∈ N, y = .p (SL r) := by
  rw [List.map_map] at h
  obtain ⟨r, h1, h2⟩ := List.mem_map.mp h
  exact ⟨r, h1, h2.symm⟩
theorem rowsAdd_len (acc : List (List Str)) (x : Str) : (rowsAdd acc x).length ≤ acc.length + 1 := by unfold rowsAdd; split <;> simp
theorem rowsFold_len : ∀ (cs : List Str) (acc : List (List Str)), (cs.foldl rowsAdd acc).length ≤ acc.length + cs.length
  | [], _ => by simp
  | c :: r, acc => by
    have h1 := rowsFold_len r (rowsAdd acc c)
    have h2 := rowsAdd_len acc c
    simp only [List.foldl_cons, List.length_cons] at *
    lia  
theorem rowV_len {x : Str} (hz : x.length ≤ 1000) : (rowV x).length ≤ 1002 := by
  have := rowFold_len (Txt.split x slash) [rootV x]
  have := split_count x
  simp only [List.length_singleton] at *
  unfold rowV; lia  
theorem rowsFold_mem : ∀ (cs : List Str) (acc : List (List Str)), ∀ r ∈ cs.foldl rowsAdd acc, r ∈ acc ∨ ∃ x ∈ cs, r = rowV x
  | [], _, r, h => .inl h
  | c :: cs, acc, r, h => by
    rcases rowsFold_mem cs _ r h with h | ⟨x, h1, h2⟩
    · unfold rowsAdd at h
      split at h
      · rcases List.mem_append.mp h with h | h
        · exact .inl h
        · exact .inr ⟨c, List.mem_cons_self, by simpa using h⟩
      · exact .inl h
    · exact .inr ⟨x, List.mem_cons_of_mem _ h1, h2⟩
theorem rowsV_mem {texts : List Str} {r : List Str} (h : r ∈ rowsV texts) : ∃ x ∈ texts, r = rowV x := by
  rcases rowsFold_mem texts [] r h with h | h
  · cases h
  · exact h
theorem rowV_mem {x p : Str} (hz : x.length ≤ 1000) (h : p ∈ rowV x) : p.length ≤ 1000 := by
  have : ∀ (cs acc : List Str), p ∈ cs.foldl rowStep acc → p ∈ acc ∨ p ∈ cs := by
    intro cs; induction cs with
    | nil => intro acc h; exact .inl h
    | cons c cs ih =>
      intro acc h
      rcases ih _ h with h | h
      · unfold rowStep at h
        split at h
        · exact .inl (List.mem_of_mem_take h)
        · split at h
          · rcases List.mem_append.mp h with h | h
            · exact .inl h
            · exact .inr (by simp at h; simp [h])
          · exact .inl h
      · exact .inr (List.mem_cons_of_mem _ h)
  rcases this _ _ h with h | h
  · have h := List.mem_singleton.mp h
    subst h; unfold rootV; split <;> decide
  · exact Nat.le_trans (split_len h) hz
theorem sl_from_strs {A : Around} {xs : List Str} {k : Int} (n : Nat) (hk : k = n) (hz : xs.length ≤ 3000) : SlOp A (SL xs) (some k) none none (SL (xs.drop n)) := by
  subst hk
  have := sl_from (A := A) (xs := xs.map .str) n (Nat.le_trans (by simpa using hz) (by decide))
  rwa [← List.map_drop] at this
theorem sl_from_rows {A : Around} {xs : List (List Str)} {k : Int} (n : Nat) (hk : k = n) (hz : xs.length ≤ 3000) : SlOp A (.list (xs.map SL)) (some k) none none (.list ((xs.drop n).map SL)) := by
  subst hk
  have := sl_from (A := A) (xs := xs.map SL) n (Nat.le_trans (by simpa using hz) (by decide))
  rwa [← List.map_drop] at this
theorem line2 {n : Nat} (h : n ≤ 100000) : n ≤ sizeLine := Nat.le_trans h (by decide)
theorem EvP.drop1 {A : Around} {xs : List Str} (hz : xs.length ≤ 3000) : SlOp A (SL xs) (some 1) none none (SL xs.tail) := by
  have := sl_from_strs (A := A) (xs := xs) (k := 1) 1 rfl hz
  rwa [List.drop_one] at this
section
variable {c : Cx} {A : Around} {s : Shared} {d : List (Str × LV)} {o : List (Addr × OV)}
/-- x[0] + '/'.join(x[1:]) -/
theorem EvP.spelled {e1 e2 : Expr} {k0 k1 k2 : Nat} {p0 p1 p2 p3 p4 p5 p6 p7 p8 : Pos} {nd : List Str} {pl : Sem Bool} (hA1 : Room 1 A) (H1 : EvP c A s d o e1 (.p (SL nd))) (H2 : EvP c A s d o e2 (.p (SL nd))) (hne : nd ≠ []) (hl : nd.length ≤ 1002) (hm : ∀ p ∈ nd, p.length ≤ 1000)
    (hm1 : eval (.Call (.Attribute (.Constant (.str slash) k0 p0) (Str.ofString "join") p1) [.Subscript e2 (.Slice (some (.Constant (.int 1) k1 p2)) none none p3) p4] [] p5) c.env = (do
      let v ← eval (.Constant (.str slash) k0 p0) c.env
      standAt p1.atName
      let (f, first) ← holding [v] (getMethod v (Str.ofString "join") pl)
      callWith p5 f first (backTo p5 (starEach [.Subscript e2 (.Slice (some (.Constant (.int 1) k1 p2)) none none p3) p4] c.env)) []) := by rfl) :
    EvP c A s d o (.BinOp (.Subscript e1 (.Constant (.int 0) k2 p7) p6) .Add (.Call (.Attribute (.Constant (.str slash) k0 p0) (Str.ofString "join") p1) [.Subscript e2 (.Slice (some (.Constant (.int 1) k1 p2)) none none p3) p4] [] p5) p8) (.p (.str (spell nd))) := by
  have htl : nd.tail.length ≤ 1001 := by rw [List.length_tail]; lia  
  have htm : ∀ p ∈ nd.tail, p.length ≤ 1000 := fun p hp => hm p (List.mem_of_mem_tail hp)
  have hjl := join_le htl htm
  have hsl : sizeLine = 16777216 := by decide
  have hh0 : nd.head?.getD "" ∈ nd := by
    cases nd with
    | nil => exact absurd rfl hne
    | cons a r => simp
  have hhl := hm _ hh0
  have i0 : Op2 A getItem (SL nd) (.int 0) (.str (nd.head?.getD "")) := op_idx (by decide) (by
    cases nd with
    | nil => exact absurd rfl hne
    | cons a r => simp) (line2 (by simp; lia  ))
  exact EvP.bin hA1 (EvP.sub hA1 H1 .cint .pd .pd HasGet.list i0) (EvP.sm1 hA1 .cstr (EvP.slice hA1 H2 (.some .cint) .none .none .pd HasGet.list (EvP.drop1 (by lia  ))) .pd F.slot_str_join F.type_str_join (op_join (joinOk_of htl htm)) hm1) .pd .pd (op_add_str (by lia  ))
end
section
variable {prog : Program} {w : World} {fa : Str → Addr} {mg mb : Str → Option Value}
set_option maxHeartbeats 2000000 in
theorem law_due_ok {texts : List Str} {ys : List T3} (hys : ys.Perm (dueL (endsV (rowsV texts)))) (hlex : ys.Pairwise lex) (h64 : (dueL (endsV (rowsV texts))).length < 64) (hz : ∀ x ∈ texts, x.length ≤ 1000) (hn : texts.length ≤ 100) : FnC prog w fa mg mb 4 "_law_due" (.p (SL texts)) (· = .p (SL (ys.map (·.2.2)))) := by
  refine FnC.of1 (i := 25) (x := "texts") (by first | with_reducible exact mFa | with_reducible exact mFb | with_reducible exact mFc | with_reducible exact mFd | with_reducible exact mFe | with_reducible exact mFf | with_reducible exact mFg | with_reducible exact mFh | with_reducible exact mFi | with_reducible exact mFj | with_reducible exact mFk) (fun _ _ _ _ _ _ _ => rfl) rfl fun kV doc pm an cd ct L g X A s hA hh T => ?_
  have hA1 : Room 1 A := hA.le (by lia  )
  refine Exs.asgC (Ev.lstN (ps := []) .nil (line_of (by simp))) fun lv o' hlv => ?_
  obtain ⟨a, rfl, rfl⟩ := hlv
  have hrl : ∀ ts : List Str, (rowsV ts).length ≤ ts.length := fun ts => by simpa [rowsV] using rowsFold_len ts []
  refine Exs.forF (x := Str.ofString "text") (fun _ => [(Str.ofString "rows", .at a)]) (fun done => [(a, .lst ((rowsV (done.map txt)).map SL))]) (fun _ _ => False) (.loc) (IterTo.list hh) (.take rfl .nil) rfl (fun done y rest' I ob ts' e => ?_) ?_ (fun _ _ f => f.elim)
  · obtain ⟨ds, z, rfl, rfl, r, e2⟩ := strs_snoc e
    have e3 : rowsV (((ds.map PyData.str).map LV.p ++ [LV.p (.str z)]).map txt) = rowsAdd (rowsV ds) z := by
      rw [List.map_append, txt_map]; simp [rowsV, txt]
    rw [txt_map]
    have hl3 : (rowsV ds).length ≤ 100 := Nat.le_trans (hrl ds) (by rw [e2] at hn; simp at hn; lia  )
    generalize hN : rowsV ds = N at *
    refine Exs.set (EvP.call1 (i := 24) T hA hh (law_row_ok (hz z (by rw [e2]; simp))) .loc) ?_
    have ro : Rd [(I, OV.raw ob), (a, OV.lst (N.map SL))] (.at a) (.list (N.map SL)) := .own (by simp)
    refine Exs.ite (TsP.cmp hA1 .loc .cel .pd ro op_notin_rows) (fun h1 => ?_) (fun h1 => ?_)
    · refine Exs.app (xs := N.map SL) .cel .loc (.tail .head) (line_of (by rw [List.length_map]; lia  )) (Exs.nilS ?_)
      refine LoopQ.nextF (o := [_]) ?_ ?_; exact Sub.take rfl .nil
      show [_] = [_]
      rw [e3]; unfold rowsAdd; rw [if_pos h1]; simp
    · refine Exs.nilS ?_
      refine LoopQ.nextF (o := [_]) ?_ ?_; exact Sub.take rfl .nil
      show [_] = [_]
      rw [e3]; unfold rowsAdd; rw [if_neg (Bool.eq_false_iff.mp h1)]
  rw [txt_map]
  have hrows := hrl texts
  have hrm : ∀ r ∈ rowsV texts, r.length ≤ 1002 := fun r hr => by
    obtain ⟨x, h1, rfl⟩ := rowsV_mem hr
    exact rowV_len (hz x h1)
  have hre : ∀ r ∈ rowsV texts, ∀ p ∈ r, p.length ≤ 1000 := fun r hr p hp => by
    obtain ⟨x, h1, rfl⟩ := rowsV_mem hr
    exact rowV_mem (hz x h1) hp
  generalize hN : rowsV texts = N at *
  refine Exs.frz (x := Str.ofString "rows") rfl ?_
  refine Exs.setComp (d₀ := [(Str.ofString "rows", .p (.list (N.map SL)))]) (up := fun y d => (Str.ofString "row", y) :: d) (p := fun y => (N.filter (below (ls y))).isEmpty) (f := fun y => SL (ls y)) (.of rfl (.cons .nil)) .cel (IterTo.list hh) (fun ob h => .inl h) ⟨fun L' g' X' y hy => CTgt.cel, fun L' g' X' y o hg hy => ?_, fun L' g' X' y o hg hy hp => ?_, fun y => ?_, ?_⟩ ?_
  · obtain ⟨r, hr, rfl⟩ := rows_mem hy
    rw [ls_SL]
    show TsP _ A s _ _ _ _
    refine TsP.cast (TsP.cmp hA1 (EvP.comp (d₀ := [(Str.ofString "row", .p (SL r))]) (up := fun z d => (Str.ofString "one", z) :: d) (p := fun z => below r (ls z)) (f := fun z => SL (ls z)) (.of rfl (.cons .nil)) .cel (IterTo.list hh) (fun ob h => .inl h) ⟨fun L2 g2 X2 z hz => CTgt.loc, fun L2 g2 X2 z o hg2 hz => ?_, fun L2 g2 X2 z o hg2 hz hp => ?_, fun z => ?_, ?_⟩) (EvP.lst (ps := []) .nil (line_of (by simp))) .pd .pd op_eq_nil) ?_
    · obtain ⟨q, hq, rfl⟩ := rows_mem hz
      rw [ls_SL]
      have T2 : Tp fa mg mb g2 := (T.gr hg).gr hg2
      have l1 := hrm r hr
      have l2 := hrm q hq
      show TsP _ A s _ _ _ _
      refine TsP.cast (TsP.and (TsP.cmp hA1 (EvP.blt1 T2 hA1 (by first | with_reducible exact mBa | with_reducible exact mBb | with_reducible exact mBc | with_reducible exact mBd | with_reducible exact mBe | with_reducible exact mBf | with_reducible exact mBg | with_reducible exact mBh | with_reducible exact mBi | with_reducible exact mBj | with_reducible exact mBk | with_reducible exact mBl | with_reducible exact mBm | with_reducible exact mBn) .loc .pd (op_len_strs (by lia  ))) (EvP.blt1 T2 hA1 (by first | with_reducible exact mBa | with_reducible exact mBb | with_reducible exact mBc | with_reducible exact mBd | with_reducible exact mBe | with_reducible exact mBf | with_reducible exact mBg | with_reducible exact mBh | with_reducible exact mBi | with_reducible exact mBj | with_reducible exact mBk | with_reducible exact mBl | with_reducible exact mBm | with_reducible exact mBn) .cel .pd (op_len_strs (by lia  ))) .pd .pd op_gt_int) fun _ => TsP.and (TsP.cmp hA1 (EvP.slice hA1 .loc .none (.some (EvP.blt1 T2 hA1 (by first | with_reducible exact mBa | with_reducible exact mBb | with_reducible exact mBc | with_reducible exact mBd | with_reducible exact mBe | with_reducible exact mBf | with_reducible exact mBg | with_reducible exact mBh | with_reducible exact mBi | with_reducible exact mBj | with_reducible exact mBk | with_reducible exact mBl | with_reducible exact mBm | with_reducible exact mBn) .cel .pd (op_len_strs (by lia  )))) .none .pd HasGet.list (sl_upto_strs _ rfl (by lia  ))) .cel .pd .pd op_eq_strs) fun _ => TsP.and0) ?_
      unfold below
      rw [Bool.and_true]
      congr 1
      simp
    · obtain ⟨q, hq, rfl⟩ := rows_mem hz
      rw [ls_SL]
      exact EvP.loc
    · exact Sub.more .refl
    · simp; exact line_of (by lia  )
    · rw [rows_filter]
      cases (N.filter (below r)) <;> rfl
  · obtain ⟨r, hr, rfl⟩ := rows_mem hy
    rw [ls_SL]
    exact EvP.cel
  · exact Sub.more .refl
  · simp; exact line_of (by lia  )
  rw [rows_filter N fun r => (N.filter (below r)).isEmpty]
  change Exs _ A s ((_, .p (.list ((endsV N).map SL))) :: _) _ _ _ _ _
  have hE1 : ∀ r ∈ endsV N, r.length ≤ 1002 := fun r hr => hrm r (List.mem_filter.mp hr).1
  have hE2 : ∀ r ∈ endsV N, ∀ p ∈ r, p.length ≤ 1000 := fun r hr => hre r (List.mem_filter.mp hr).1
  have hE3 : (endsV N).length ≤ 100 := by have := List.length_filter_le (fun r => (N.filter (below r)).isEmpty) N; unfold endsV; lia  
  generalize hEN : endsV N = N' at *
  refine Exs.asg (Ev.lstN (ps := []) .nil (line_of (by simp))) fun lv o' hlv => ?_
  obtain ⟨b, rfl, rfl⟩ := hlv
  refine Exs.forF (x := Str.ofString "k") (fun _ => [(Str.ofString "due", .at b), (Str.ofString "ends", .p (.list (N'.map SL)))]) (fun done => [(b, .lst ((dueN N' done.length).map tup))]) (fun _ _ => False)
    (EvP.rng1 T (EvP.blt1 T hA1 (by first | with_reducible exact mBa | with_reducible exact mBb | with_reducible exact mBc | with_reducible exact mBd | with_reducible exact mBe | with_reducible exact mBf | with_reducible exact mBg | with_reducible exact mBh | with_reducible exact mBi | with_reducible exact mBj | with_reducible exact mBk | with_reducible exact mBl | with_reducible exact mBm | with_reducible exact mBn) .loc .pd (op_len_list (line_of (by simp; lia  ))))) (IterTo.range hh (by lia  ) (by lia  ) (by rw [List.length_map]; lia  ) (by rw [List.length_map]; lia  )) (.take rfl <| .take rfl .nil) rfl (fun done y rest' I ob ts' e => ?_) ?_ (fun _ _ f => f.elim)
  · obtain ⟨hk, rfl⟩ := rng_snoc e
    have hk : done.length < N'.length := by simpa using hk
    have e0 : (0 : Int) + (done.length : Nat) = (done.length : Nat) := by lia  
    have e4 : dueN N' (done ++ [LV.p (.int (0 + (done.length : Nat)))]).length = dueN N' done.length ++ dueAt N' done.length := by rw [List.length_append]; exact dueN_succ _ _
    rw [e0]
    rw [e0] at e4
    generalize hkk : done.length = k at *
    have gk : N'.getD k [] = N'[k] := by simp [hk]
    have lk : N'[k].length ≤ 1002 := hE1 _ (by simp)
    have idx : Op2 A getItem (.list (N'.map SL)) (.int (k : Int)) (SL N'[k]) := op_idx (by lia  ) (by simp [hk]) (line_of (by simp; lia  ))
    refine Exs.forFC (x := Str.ofString "size") (fun _ => [(Str.ofString "due", .at b), (Str.ofString "ends", .p (.list (N'.map SL))), (Str.ofString "k", .p (.int k))]) (fun done' => [(I, .raw ob), (b, .lst ((dueN N' k ++ dueAtN N' k done'.length).map tup))]) (fun _ _ => False)
      (EvP.rng2 T .cint (EvP.bin hA1 (EvP.blt1 T hA1 (by first | with_reducible exact mBa | with_reducible exact mBb | with_reducible exact mBc | with_reducible exact mBd | with_reducible exact mBe | with_reducible exact mBf | with_reducible exact mBg | with_reducible exact mBh | with_reducible exact mBi | with_reducible exact mBj | with_reducible exact mBk | with_reducible exact mBl | with_reducible exact mBm | with_reducible exact mBn) (EvP.sub hA1 .loc .loc .pd .pd HasGet.list idx) .pd (op_len_strs (by lia  ))) .cint .pd .pd op_add_int)) (IterTo.range hh (by lia  ) (by lia  ) (by lia  ) (by lia  )) (.take rfl <| .take rfl <| .take rfl .nil) (by simp [dueAtN]) (fun done' y' rest'' I2 ob2 ts2 e' => ?_) ?_ (fun _ _ f => f.elim)
    · obtain ⟨hj, rfl⟩ := rng_snoc e'
      have hj : done'.length < N'[k].length := by lia  
      have e5 : dueAtN N' k (done' ++ [LV.p (.int (1 + (done'.length : Nat)))]).length = dueAtN N' k done'.length ++ dueOne N' k done'.length := by rw [List.length_append]; exact dueAtN_succ _ _ _
      have e1 : (1 : Int) + (done'.length : Nat) = ((done'.length + 1 : Nat) : Int) := by lia  
      rw [e1]
      rw [e1] at e5
      generalize hjj : done'.length = j at *
      have gt : ∀ one : List Str, SlOp A (SL one) none (some ((j + 1 : Nat) : Int)) none (SL (one.take (j + 1))) ∨ ¬ one.length ≤ 3000 := fun one => by
        by_cases h : one.length ≤ 3000
        · exact .inl (sl_upto_strs _ rfl h)
        · exact .inr h
      refine Exs.setC (lv := .p (SL (N'[k].take (j + 1)))) (EvP.slice hA1 (EvP.sub hA1 .loc .loc .pd .pd HasGet.list idx) .none (.some .cel) .none .pd HasGet.list (sl_upto_strs _ rfl (by lia  ))) ?_
      have hND : (N'[k].take (j + 1)).length = j + 1 := by rw [List.length_take]; lia  
      have hND2 : ∀ p ∈ N'[k].take (j + 1), p.length ≤ 1000 := fun p hp => hE2 _ (by simp) p (List.mem_of_mem_take hp)
      generalize hnd : N'[k].take (j + 1) = nd at *
      refine Exs.ite (k := ((N'.drop (k + 1)).filter fun one => one.take (j + 1) == nd).isEmpty) (TsP.cast (TsP.cmp hA1 (EvP.comp (d₀ := [(Str.ofString "node", .p (SL nd)), (Str.ofString "size", .p (.int ((j + 1 : Nat) : Int)))]) (up := fun z d => (Str.ofString "one", z) :: d) (p := fun z => (ls z).take (j + 1) == nd) (f := fun z => SL (ls z)) (.of rfl (.cons (.cons .nil)))
        (EvP.slice hA1 .loc (.some (EvP.bin hA1 .loc .cint .pd .pd op_add_int)) .none .none .pd HasGet.list (sl_from_rows (k + 1) (by lia  ) (by lia  ))) (IterTo.list hh) (fun ob h => .inl h) ⟨fun L2 g2 X2 z hz => CTgt.loc, fun L2 g2 X2 z o hg2 hz => ?_, fun L2 g2 X2 z o hg2 hz hp => ?_, fun z => ?_, ?_⟩) (EvP.lst (ps := []) .nil (line_of (by simp))) .pd .pd op_eq_nil) ?_) (fun h1 => ?_) (fun h1 => ?_)
      · obtain ⟨q, hq, rfl⟩ := rows_mem hz
        rw [ls_SL]
        have l2 := hE1 q (List.mem_of_mem_drop hq)
        show TsP _ A s _ _ _ _
        exact TsP.cmp hA1 (EvP.slice hA1 .loc .none (.some .cel) .none .pd HasGet.list (sl_upto_strs _ rfl (by lia  ))) .cel .pd .pd op_eq_strs
      · obtain ⟨q, hq, rfl⟩ := rows_mem hz
        rw [ls_SL]
        exact EvP.loc
      · exact Sub.more (Sub.refl)
      · rw [List.length_map, List.length_map, List.length_drop]; exact line_of (by lia  )
      · rw [rows_filter _ fun one => one.take (j + 1) == nd]
        cases ((N'.drop (k + 1)).filter fun one => one.take (j + 1) == nd) <;> rfl
      · have hone : dueOne N' k j = [((k : Int), -((j + 1 : Nat) : Int), spell nd)] := by
          unfold dueOne; rw [gk, hnd, if_pos h1]
        have hl1 : (dueN N' k ++ dueAtN N' k j).length ≤ 64 := by
          have := due_part N' k j hk (by rw [gk]; lia  )
          lia  
        have hne : nd ≠ [] := by intro q; rw [q] at hND; simp at hND
        refine Exs.app (y := tup ((k : Int), -((j + 1 : Nat) : Int), spell nd)) .loc (EvP.tup (ps := [.int k, .int (-((j + 1 : Nat) : Int)), .str (spell nd)]) (.cons .loc (.cons (.un hA1 .cel .pd op_neg_int) (.cons (EvP.spelled hA1 .cel .cel hne (by lia  ) hND2) .nil))) (line_of (by simp))) (.tail (.tail .head)) (line_of (by rw [List.length_map]; lia  )) (Exs.nilS ?_)
        refine LoopQ.nextF (o := [_, _]) ?_ ?_; exact .take rfl <| .take rfl <| .take rfl .nil
        show [_, _] = [_, _]
        rw [e5, hone]; simp
      · have hone : dueOne N' k j = [] := by
          unfold dueOne; rw [gk, hnd, if_neg (Bool.eq_false_iff.mp h1)]
        refine Exs.nilS ?_
        refine LoopQ.nextF (o := [_, _]) ?_ ?_; exact .take rfl <| .take rfl <| .take rfl .nil
        show [_, _] = [_, _]
        rw [e5, hone]; simp
    · refine LoopQ.nextF (o := [_]) ?_ ?_; exact .take rfl <| .take rfl .nil
      show [_] = [_]
      rw [e4]; unfold dueAt; rw [gk]; simp
  · have e6 : ((List.range ((N'.map SL).length : Int).toNat).map fun i => LV.p (.int (0 + (i : Nat)))).length = N'.length := by simp
    have e7 : dueN N' ((List.range (((N'.map SL).length : Int) - 0).toNat).map fun i => LV.p (.int (0 + (i : Nat)))).length = dueL N' := by unfold dueL; congr 1 <;> simp
    rw [e7]
    have ly : ys.length < 64 := by rw [hys.length_eq]; exact h64
    refine Exs.retP (lv := .p (SL (ys.map (·.2.2)))) (EvP.cast (EvP.comp (d₀ := []) (up := up3) (p := fun _ => true) (f := sp3) (.of rfl .nil) (EvP.blt1 T hA1 (by first | with_reducible exact mBa | with_reducible exact mBb | with_reducible exact mBc | with_reducible exact mBd | with_reducible exact mBe | with_reducible exact mBf | with_reducible exact mBg | with_reducible exact mBh | with_reducible exact mBi | with_reducible exact mBj | with_reducible exact mBk | with_reducible exact mBl | with_reducible exact mBm | with_reducible exact mBn) .loc (.own (by simp)) (op_sorted hys hlex h64)) (IterTo.list hh) (fun ob h => .inl h) ⟨fun L2 g2 X2 z hz => ?_, fun L2 g2 X2 z o hg2 hz => rfl, fun L2 g2 X2 z o hg2 hz hp => ?_, fun z n lv hl => ?_, ?_⟩) ?_) fun v h tk C => RetQ.of C rfl
    · obtain ⟨q, hq, rfl⟩ := List.mem_map.mp hz
      obtain ⟨x, hx, rfl⟩ := List.mem_map.mp hq
      exact CTgt.tup3 hh
    · obtain ⟨q, hq, rfl⟩ := List.mem_map.mp hz
      obtain ⟨x, hx, rfl⟩ := List.mem_map.mp hq
      exact EvP.loc
    · cases hl
    · rw [List.length_map, List.length_map]; exact line_of (by lia  )
    · rw [List.filter_eq_self.mpr (fun _ _ => rfl), List.map_map, List.map_map]
      show LV.p (.list _) = LV.p (.list _)
      rw [List.map_map]
      rfl
end
end Mine
end

section
open PySem PySem.W PyProof.Rows PySem.Calls
open PySem.Builtin PySem.Builtin.Str
set_option linter.unusedVariables false
set_option maxRecDepth 100000
namespace Mine
noncomputable def pieces7 : List Str := ["a", "b", "..", "c", ".", "ab", ""]
noncomputable def growF : Nat → Nat → Str → Str
  | 0, _, t => t
  | f + 1, n, t => if n = 0 then t else growF f (n / 7) (t ++ slash ++ pieces7.getD (n % 7) "")
noncomputable def seedOf (texts : List Str) (k : Nat) : Str := if k = 6 then "/." else if k = 7 then "//." else texts.getD (texts.length - 1 - k % texts.length) ""
noncomputable def textOf (texts : List Str) (x : Int) : Str := growF 3 (x.natAbs % 392 / 8) (seedOf texts (x.natAbs % 392 % 8))
noncomputable def base3 : List Str := ["/a/b", "/a//c/../b/a", "/b/."]
noncomputable def textsN (xs : List Int) : List Str := xs.foldl (fun acc x => acc ++ [textOf acc x]) base3
noncomputable def num : LV → Int
  | .p (.int x) => x
  | _ => 0
theorem num_map (xs : List Int) : ((xs.map PyData.int).map LV.p).map num = xs := by
  induction xs with
  | nil => rfl
  | cons a r ih => simp [num] at ih ⊢; exact ih
theorem ints_snoc {xs : List Int} {done : List LV} {y : LV} {rest : List LV} (e : (xs.map PyData.int).map LV.p = done ++ y :: rest) : ∃ ds z, done = (ds.map PyData.int).map LV.p ∧ y = .p (.int z) ∧ ∃ r, xs = ds ++ z :: r := by
  rw [List.map_map] at e
  obtain ⟨l1, l2, h1, h2, h3⟩ := List.map_eq_append_iff.mp e
  obtain ⟨z, l3, h4, h5, h6⟩ := List.map_eq_cons_iff.mp h3
  exact ⟨l1, z, by rw [List.map_map, h2], h5.symm, l3, by rw [h1, h4]⟩
theorem textsN_snoc (xs : List Int) (x : Int) : textsN (xs ++ [x]) = textsN xs ++ [textOf (textsN xs) x] := by simp [textsN]
theorem textsN_len (xs : List Int) : (textsN xs).length = xs.length + 3 := by
  have : ∀ (l : List Int) (acc : List Str), (l.foldl (fun acc x => acc ++ [textOf acc x]) acc).length = l.length + acc.length := by
    intro l; induction l with
    | nil => intro acc; simp
    | cons a r ih => intro acc; rw [List.foldl_cons, ih]; simp; lia  
  exact this xs base3
theorem piece_len (i : Nat) : (pieces7.getD i "").length ≤ 2 := by
  by_cases h : i < 7
  · have : ∀ j : Fin 7, (pieces7.getD j.1 "").length ≤ 2 := by decide
    exact this ⟨i, h⟩
  · have : pieces7.getD i "" = "" := by
      rw [List.getD_eq_getElem?_getD, List.getElem?_eq_none (Nat.le_of_not_lt h)]; rfl
    rw [this]; decide
theorem growF_len : ∀ (f n : Nat) (t : Str), (growF f n t).length ≤ t.length + 3 * f
  | 0, _, _ => by simp [growF]
  | f + 1, n, t => by
    unfold growF
    split
    · lia  
    · have h1 := growF_len f (n / 7) (t ++ slash ++ pieces7.getD (n % 7) "")
      have h2 := piece_len (n % 7)
      rw [Str.length_append, Str.length_append, show slash.length = 1 by decide] at h1
      lia  
theorem seed_len {texts : List Str} {B : Nat} (h : ∀ t ∈ texts, t.length ≤ B) (h3 : 3 ≤ B) (k : Nat) : (seedOf texts k).length ≤ B := by
  unfold seedOf
  split
  · exact Nat.le_trans (by decide) h3
  · split
    · exact Nat.le_trans (by decide) h3
    · rw [List.getD_eq_getElem?_getD]
      cases he : texts[texts.length - 1 - k % texts.length]? with
      | none => exact Nat.zero_le _
      | some t => exact h t (List.mem_of_getElem? he)
theorem textsN_short : ∀ (xs : List Int), ∀ t ∈ textsN xs, t.length ≤ 12 + 9 * xs.length := by
  intro xs
  have : ∀ (l : List Int) (acc : List Str) (B : Nat), 3 ≤ B → (∀ t ∈ acc, t.length ≤ B) → ∀ t ∈ l.foldl (fun acc x => acc ++ [textOf acc x]) acc, t.length ≤ B + 9 * l.length := by
    intro l; induction l with
    | nil => intro acc B h3 h t ht; have := h t ht; simp; exact this
    | cons a r ih =>
      intro acc B h3 h t ht
      have := ih (acc ++ [textOf acc a]) (B + 9) (by lia  ) (fun t ht => by
        rcases List.mem_append.mp ht with ht | ht
        · have := h t ht; lia  
        · rw [List.mem_singleton.mp ht]
          have h1 := growF_len 3 (a.natAbs % 392 / 8) (seedOf acc (a.natAbs % 392 % 8))
          have h2 := seed_len h h3 (a.natAbs % 392 % 8)
          unfold textOf; lia  ) t ht
      simp only [List.length_cons]; lia  
  exact this xs base3 12 (by lia  ) (by decide)
theorem get_map_str {l : List Str} {j : Nat} (h : j < l.length) : (l.map PyData.str)[j]? = some (.str (l.getD j "")) := by
  rw [List.getElem?_map, List.getD_eq_getElem?_getD, List.getElem?_eq_getElem h]; rfl
inductive TxJ (n : Nat) (t0 : Str) (a : Addr) (O : List (Addr × OV)) (m : Nat) (d : List (Str × LV)) : List (Addr × OV) → Prop
  | mk (n' : Nat) (t' : Str) (h1 : n' < 7 ^ m) (h2 : m ≤ 3) (h3 : growF m n' t' = growF 3 (n / 8) t0) (h4 : t'.length + 3 * m ≤ 100) (h5 : Sub [(Str.ofString "n", .p (.int ((n' : Nat) : Int))), (Str.ofString "text", .p (.str t')), (Str.ofString "texts", .at a)] d) : TxJ n t0 a O m d O
section
variable {prog : Program} {w : World} {fa : Str → Addr} {mg mb : Str → Option Value}
theorem fmod_nat (a b : Nat) : (a : Int).fmod (b : Int) = ((a % b : Nat) : Int) := by rw [Int.fmod_eq_emod_of_nonneg _ (by lia  )]; rfl
theorem fdiv_nat (a b : Nat) : (a : Int).fdiv (b : Int) = ((a / b : Nat) : Int) := by rw [Int.fdiv_eq_ediv_of_nonneg _ (by lia  )]; rfl
set_option maxHeartbeats 2000000 in
theorem law_texts_ok {script : List Int} (hz : script.length ≤ 1000) : FnC prog w fa mg mb 4 "_law_texts" (.p (.list (script.map .int))) (· = .p (SL (textsN (script.take 4)))) := by
  refine FnC.of1 (i := 22) (x := "script") (by first | with_reducible exact mFa | with_reducible exact mFb | with_reducible exact mFc | with_reducible exact mFd | with_reducible exact mFe | with_reducible exact mFf | with_reducible exact mFg | with_reducible exact mFh | with_reducible exact mFi | with_reducible exact mFj | with_reducible exact mFk) (fun _ _ _ _ _ _ _ => rfl) rfl fun kV doc pm an cd ct L g X A s hA hh T => ?_
  have hA1 : Room 1 A := hA.le (by lia  )
  refine Exs.asg (Ev.lstN (ps := base3.map .str) (.cons .cstr (.cons .cstr (.cons .cstr .nil))) (line_of (by decide))) fun lv o' hlv => ?_
  obtain ⟨a, rfl, rfl⟩ := hlv
  have htk : (script.map PyData.int).take 4 = (script.take 4).map .int := by rw [List.map_take]
  have hl4 : (script.take 4).length ≤ 4 := by rw [List.length_take]; lia  
  refine Exs.forF (x := Str.ofString "x") (l0 := .p (.list ((script.take 4).map .int))) (fun _ => [(Str.ofString "texts", .at a)]) (fun done => [(a, .lst ((textsN (done.map num)).map .str))]) (fun _ _ => False) (EvP.cast (EvP.slice hA1 .loc .none (.some .cint) .none .pd HasGet.list (sl_upto 4 (line_of (by simpa using hz)))) (by rw [htk])) (IterTo.list hh) (.take rfl .nil) rfl (fun done y rest' I ob ts' e => ?_) ?_ (fun _ _ f => f.elim)
  · obtain ⟨ds, z, rfl, rfl, r, e2⟩ := ints_snoc e
    have e3 : textsN (((ds.map PyData.int).map LV.p ++ [LV.p (.int z)]).map num) = textsN ds ++ [textOf (textsN ds) z] := by
      rw [List.map_append, num_map]; exact textsN_snoc _ _
    rw [num_map]
    have hd : ds.length ≤ 3 := by rw [e2] at hl4; simp at hl4; lia  
    have hl := textsN_len ds
    have hs := textsN_short ds
    have hto : textOf (textsN ds) z = growF 3 (z.natAbs % 392 / 8) (seedOf (textsN ds) (z.natAbs % 392 % 8)) := rfl
    generalize hN : textsN ds = N at *
    have hm : z.natAbs % 392 < 392 := Nat.mod_lt _ (by decide)
    have e0 : (if z < 0 then -z else z) = (z.natAbs : Int) := by split <;> lia  
    refine Exs.set (lv := .p (.int ((z.natAbs % 392 : Nat) : Int))) (EvP.cast (EvP.bin hA1 (EvP.blt1 T hA1 (by first | with_reducible exact mBa | with_reducible exact mBb | with_reducible exact mBc | with_reducible exact mBd | with_reducible exact mBe | with_reducible exact mBf | with_reducible exact mBg | with_reducible exact mBh | with_reducible exact mBi | with_reducible exact mBj | with_reducible exact mBk | with_reducible exact mBl | with_reducible exact mBm | with_reducible exact mBn) .loc .pd op_abs) .cint .pd .pd (op_mod_int (by decide))) (by rw [e0]; exact congrArg (fun i => LV.p (.int i)) (fmod_nat _ 392))) ?_
    generalize z.natAbs % 392 = n at *
    refine Exs.set (lv := .p (.int ((n % 8 : Nat) : Int))) (EvP.cast (EvP.bin hA1 .loc .cint .pd .pd (op_mod_int (by decide))) (congrArg (fun i => LV.p (.int i)) (fmod_nat _ 8))) ?_
    have hk8 : n % 8 < 8 := Nat.mod_lt _ (by decide)
    have hsl := seed_len (B := 12 + 9 * ds.length) hs (by lia  ) (n % 8)
    generalize hk : n % 8 = k at *
    have ro : Rd [(I, OV.raw ob), (a, OV.lst (N.map .str))] (.at a) (.list (N.map .str)) := .own (by simp)
    have hkl : k % N.length < N.length := Nat.mod_lt _ (by lia  )
    refine Exs.set (lv := .p (.str (seedOf N k))) (EvP.ifx (TsP.cmp hA1 .loc .cint .pd .pd op_eq_int) (fun h0 => .cast .cstr ?_) (fun h0 => EvP.ifx (TsP.cmp hA1 .loc .cint .pd .pd op_eq_int) (fun h1 => .cast .cstr ?_) (fun h1 => EvP.sub hA1 .loc (EvP.bin hA1 (.un hA1 .cint .pd op_neg_int) (EvP.bin hA1 .loc (EvP.blt1 T hA1 (by first | with_reducible exact mBa | with_reducible exact mBb | with_reducible exact mBc | with_reducible exact mBd | with_reducible exact mBe | with_reducible exact mBf | with_reducible exact mBg | with_reducible exact mBh | with_reducible exact mBi | with_reducible exact mBj | with_reducible exact mBk | with_reducible exact mBl | with_reducible exact mBm | with_reducible exact mBn) .loc ro (op_len_list (line_of (by simp; lia  )))) .pd .pd (op_mod_int (by rw [List.length_map]; lia  ))) .pd .pd op_sub_int) ro .pd HasGet.list (op_idx_neg ?_ ?_ ?_ (line_of (by simp; lia  )))))) ?_
    · have : k = 6 := by have := eq_of_beq h0; lia  
      unfold seedOf; rw [if_pos this]
    · have h6 : k ≠ 6 := by intro q; subst q; simp at h0
      have h7 : k = 7 := by have := eq_of_beq h1; lia  
      unfold seedOf; rw [if_neg h6, if_pos h7]
    · rw [fmod_nat]; lia  
    · rw [fmod_nat]; simp; lia  
    · have h6 : k ≠ 6 := by intro q; subst q; simp at h0
      have h7 : k ≠ 7 := by intro q; subst q; simp at h1
      rw [fmod_nat]
      have e5 : (-(1 : Int) - ((k % (N.map PyData.str).length : Nat) : Int) + ((N.map PyData.str).length : Int)).toNat = N.length - 1 - k % N.length := by simp; lia  
      rw [e5]
      unfold seedOf; rw [if_neg h6, if_neg h7]
      have : N.length - 1 - k % N.length < N.length := by lia  
      simp [this]
    generalize hsd : seedOf N k = t0 at *
    refine Exs.set (lv := .p (.int ((n / 8 : Nat) : Int))) (EvP.cast (EvP.bin hA1 .loc .cint .pd .pd (op_fdiv_int (by decide) (by decide))) (congrArg (fun i => LV.p (.int i)) (fdiv_nat _ 8))) ?_
    refine Exs.whl (TxJ n t0 a [(I, .raw ob), (a, .lst (N.map .str))]) (fun _ _ => False) 3
      ⟨n / 8, t0, by lia  , Nat.le_refl _, rfl, by lia  , .take rfl <| .take rfl <| .take rfl .nil⟩ ?_ (fun _ _ f => f.elim)
    rintro m d o ⟨n', t', hn', hm3, hg, hlt, hsub⟩
    refine ⟨decide (0 < (n' : Int)), (TsP.cmp hA1 (EvP.loc (hsub _ _ rfl)) .cint .pd .pd op_gt_int), fun h0 => ?_, fun h0 => ?_⟩
    · have hp : 0 < n' := by have := of_decide_eq_true h0; lia  
      refine Exs.sub hsub ?_
      obtain ⟨m', rfl⟩ : ∃ m', m = m' + 1 := ⟨m - 1, by
        have : m ≠ 0 := by intro q; subst q; simp at hn'; lia  
        lia  ⟩
      have hm7 : n' % 7 < 7 := Nat.mod_lt _ (by decide)
      have hpl := piece_len (n' % 7)
      have hsz : sizeLine = 16777216 := by decide
      refine Exs.set (lv := .p (.str (t' ++ slash ++ pieces7.getD (n' % 7) ""))) (EvP.bin hA1 (EvP.bin hA1 .loc .cstr .pd .pd (op_add_str (by rw [show (Str.ofString "/").length = 1 by decide]; lia  ))) (EvP.sub hA1 (EvP.tup (ps := pieces7.map .str) (.cons .cstr (.cons .cstr (.cons .cstr (.cons .cstr (.cons .cstr (.cons .cstr (.cons .cstr .nil))))))) (line_of (by decide))) (EvP.cast (EvP.bin hA1 .loc .cint .pd .pd (op_mod_int (by decide))) (congrArg (fun i => LV.p (.int i)) (fmod_nat _ 7))) .pd .pd HasGet.tuple (op_tup_idx (by lia  ) ?_ (line_of (by decide)))) .pd .pd (op_add_str ?_)) ?_
      · exact get_map_str hm7
      · rw [Str.length_append, show (Str.ofString "/").length = 1 by decide]; lia  
      refine Exs.set (lv := .p (.int ((n' / 7 : Nat) : Int))) (EvP.cast (EvP.bin hA1 .loc .cint .pd .pd (op_fdiv_int (by decide) (by decide))) (congrArg (fun i => LV.p (.int i)) (fdiv_nat _ 7))) ?_
      refine Exs.nil fun h tk C => WQ.next C ⟨m', by lia  , .mk (n' / 7) _ ?_ (by lia) ?_ ?_ (.take rfl <| .take rfl <| .take rfl .nil)⟩
      · rw [Nat.pow_succ] at hn'; lia  
      · rw [← hg]
        show _ = if n' = 0 then t' else _
        rw [if_neg (by lia  )]
      · rw [Str.length_append, Str.length_append, show slash.length = 1 by decide]; lia  
    · have hp : n' = 0 := by have := of_decide_eq_false h0; lia  
      subst hp
      have hfin : t' = growF 3 (n / 8) t0 := by
        rw [← hg]
        cases m with
        | zero => rfl
        | succ m => rfl
      refine Exs.sub hsub ?_
      refine Exs.app (xs := N.map .str) .loc .loc (.tail .head) (line_of (by rw [List.length_map]; lia  )) ?_
      refine LoopQ.nextF (o := [_]) ?_ ?_; exact .take rfl .nil
      show [_] = [_]
      rw [e3, hto, ← hfin]; simp
  · rw [num_map]
    exact Exs.retP .loc fun v h tk C => RetQ.own C rfl
end
end Mine
end

section
open PySem PySem.W PyProof.Rows PySem.Calls
open PySem.Builtin
set_option linter.unusedVariables false
set_option maxRecDepth 100000
namespace Mine
noncomputable def dedAdd (acc : List Str) (x : Str) : List Str := if x ∈ acc then acc else acc ++ [x]
noncomputable def ded (xs : List Str) : List Str := xs.foldl dedAdd []
noncomputable def nones (ks : List Str) : List (Str × Value) := ks.map fun k => (k, Value.none)
theorem nones_fst (ks : List Str) : (nones ks).map (·.1) = ks := map_fst_none ks
theorem stored_nones (acc : List Str) (x : Str) : stored (nones acc) x Value.none = nones (dedAdd acc x) := by
  unfold stored dedAdd nones
  by_cases h : x ∈ acc
  · have e : ((acc.map fun k => (k, Value.none)).any fun kv => decide (kv.1 = x)) = true := by
      rw [List.any_eq_true]; exact ⟨(x, Value.none), List.mem_map.mpr ⟨x, h, rfl⟩, by simp⟩
    rw [if_pos e, if_pos h, List.map_map]
    apply List.map_congr_left
    intro k _
    show (if k = x then (k, Value.none) else (k, Value.none)) = _
    split <;> rfl
  · have e : ((acc.map fun k => (k, Value.none)).any fun kv => decide (kv.1 = x)) = false := by
      rw [List.any_eq_false]
      intro kv hkv q
      obtain ⟨k, h1, rfl⟩ := List.mem_map.mp hkv
      have := of_decide_eq_true q
      exact h (by rw [← this]; exact h1)
    rw [if_neg (by rw [e]; decide), if_neg h]
    simp
theorem plain_fkl : plainId "dict.fromkeys.loop" = true := by decide +kernel
theorem entry_fkl : entryFor table "dict.fromkeys.loop" = some Builtin.«dict.fromkeys.loop» := entryFor_of_tree (by kernel_rfl)
theorem entry_fk : entryFor table "dict.fromkeys" = some Builtin.«dict.fromkeys» := entryFor_of_tree (by kernel_rfl)
section
variable {prog : Program} {w : World} {A : Around}
theorem fk_loop {R : Result → Shared → Prop} {xs : List Str} {vs : List Value} {b d I : Addr} {n : Nat} (hl : vs.length = xs.length) (hlen : xs.length ≤ 10000) (hv : ∀ (i : Nat) (v : Value), vs[i]? = some v → ∃ x t, xs[i]? = some x ∧ v = Value.str x t) (hbI : b ≠ I) (hbd : b ≠ d) (hId : I ≠ d) :
    ∀ (k : Nat) (A A' : Around) (i : Nat) (acc : List Str) (s : Shared), A.handled = none → A'.handled = none → i + k = xs.length → s.heap.get? b = some (listO vs n) → s.heap.IsListIter I b i → s.heap.DictOf (strKind prog w) d (nones acc) → acc.length ≤ i →
    (∀ h' tk, (∀ a o, a ≠ d → a ≠ I → s.heap.get? a = some o → h'.get? a = some o) → h'.DictOf (strKind prog w) d (nones ((xs.drop i).foldl dedAdd acc)) → R (.ok (.ret (.ref d))) { s with heap := h', toks := tk }) →
    wpAny (model prog w) A (Builtin.«dict.fromkeys.loop» ⟨[.ref d, .ref I, .none], []⟩) (fun fin s' => match fin with | .done f => R (.ok f) s' | .again c' => c'.quiet = true ∧ codeAny (model prog w) A' c' R s') (fun e s' => R (.error e) s') s := by
  intro k
  induction k with
  | zero =>
    intro A A' i acc s hh hh' hi hb hI hd hacc hR
    have W := Walks.list (prog := prog) (w := w) hh I b hbI vs.toArray
    unfold Builtin.«dict.fromkeys.loop»
    refine wpAny_bind (W.done s _ _ ⟨by simpa [hl, ← hi] using hI, ⟨_, hb, rfl, n, rfl⟩⟩ fun h' tk hk => ?_)
    refine wpAny_pure (hR h' tk (fun a o h1 h2 e => hk a o (by simpa using h2) e) ?_)
    have : xs.drop i = [] := by rw [List.drop_eq_nil_iff]; lia  
    rw [this]
    obtain ⟨o, es, ep, e, r⟩ := hd
    exact ⟨o, es, ep, hk _ _ (by simpa using hId.symm) e, r⟩
  | succ k ih =>
    intro A A' i acc s hh hh' hi hb hI hd hacc hR
    have W := Walks.list (prog := prog) (w := w) hh I b hbI vs.toArray
    unfold Builtin.«dict.fromkeys.loop»
    refine wpAny_bind (W.item i s _ _ (by simp; lia  ) ⟨hI, ⟨_, hb, rfl, n, rfl⟩⟩ fun v h' tk hp hst hk => ?_)
    obtain ⟨x, t, hx, rfl⟩ := hv i v (by simpa using hp)
    have hd' : h'.DictOf (strKind prog w) d (nones acc) := by
      obtain ⟨o, es, ep, e, r⟩ := hd
      exact ⟨o, es, ep, hk _ _ (by simpa using hId.symm) e, r⟩
    refine wpAny_bind (wpAny_typeOf (s := { s with heap := h', toks := tk }) hd'.typeIs ?_)
    rw [if_pos (by decide)]
    refine wpAny_bind (wpAny_pure ?_)
    refine wpAny_bind (wpAny_holding (wpAny_dictSet_pairs (knd := strKind prog w) (k := x) (key := .str x t) (s := { s with heap := h', toks := tk }) (by simp [PySem.strKind, Value.isStrOf]) hd' (fun h2 hd2 hs2 => ?_) (by unfold nones; rw [List.length_map]; exact line2 (by lia  ))))
    rw [stored_nones] at hd2
    refine wpAny_pure ⟨plainId_quiet plain_fkl _, codeAny_builtin entry_fkl ?_⟩
    rw [Around.under_plainId plain_fkl _]
    have hdrop : xs.drop i = x :: xs.drop (i + 1) := by
      obtain ⟨h1, h2⟩ := List.getElem?_eq_some_iff.mp hx
      rw [← h2]; simp
    refine ih _ _ (i + 1) (dedAdd acc x) { s with heap := h2, toks := tk + 1 } hh' hh' (by lia  ) ?_ ?_ hd2 ?_ fun h3 tk3 hk3 hd3 => ?_
    · exact (hs2.2 b hbd).trans (hk b _ (by simpa using hbI) hb)
    · obtain ⟨⟨o, e, r⟩, _⟩ := hst
      exact ⟨o, (hs2.2 I hId).trans e, r⟩
    · unfold dedAdd; split
      · lia  
      · rw [List.length_append, List.length_singleton]; lia  
    · rw [hdrop, List.foldl_cons] at hR
      exact hR h3 tk3 (fun a o h1 h2 e => hk3 a o h1 h2 ((hs2.2 a h1).trans (hk a o (by simpa using h2) e))) hd3

theorem typeCall_dict_0 : checkTypeCall "dict" ⟨[], []⟩ = pure () := by kernel_rfl
theorem newCall_dict_0 : checkBuiltinCall "dict.__new__" ⟨[.type "dict"], []⟩ = pure () := by kernel_rfl
theorem code_dict_new0 {s : Shared} {E : Value → Shared → Prop} {Q₁ : Value → Shared → Prop} (h : Q₁ (.ref s.heap.objs.size) { s with heap := s.heap.push { cls := .type "dict", data := .dict #[] } }) :
    codeAny (model prog w) A (.call (.builtin "dict.__new__") ⟨[.type "dict"], []⟩) (wants Q₁ E) s := by
  refine codeAny_call_builtin F.kt_plain_dict_new F.kt_entry_dict_new (wpAny_of_eq newCall_dict_0 ?_)
  have hsub := F.kt_sub_dict
  have hmro := F.kt_mro_dict
  obtain ⟨hp, g, d, tk, os⟩ := s
  unfold Builtin.«dict.__new__»
  wp_walk
  exact h
theorem args_dict_init1 (a : Value) : argsOk "dict.__init__" ⟨[a], []⟩ := by unfold argsOk; kernel_rfl
theorem call_dict0 {s : Shared} {E : Value → Shared → Prop} {Q : Value → Shared → Prop} (h : Q (.ref s.heap.objs.size) { s with heap := s.heap.push { cls := .type "dict", data := .dict #[] } }) :
    wpAny (model prog w) A (call (.type "dict") []) Q E s := by
  refine callType_codes (Q₁ := fun obj s₁ => obj = .ref s.heap.objs.size ∧ s₁ = { s with heap := s.heap.push { cls := .type "dict", data := .dict #[] } }) F.kt_called_dict typeCall_dict_0 F.entry_dict_init (code_dict_new0 ⟨rfl, rfl⟩) ?_
  rintro obj s₁ ⟨rfl, rfl⟩
  have hnew : (s.heap.push { cls := .type "dict", data := .dict #[] }).DictOf (PySem.strKind prog w) s.heap.objs.size [] := Heap.DictOf.new s.heap
  refine ⟨hnew.typeIs, args_dict_init1 _, ?_⟩
  unfold Builtin.«dict.__init__»
  refine wpAny_bind ?_
  unfold Builtin.Dict.selfAndRest
  refine wpAny_bind (wpAny_notOrdered_dict hnew.typeIs ?_)
  show wpAny _ _ (pure (s.heap.objs.size, ([] : List Value))) _ _ _
  refine wpAny_pure ?_
  exact wpAny_bind (wpAny_pure (wpAny_pure ⟨rfl, h⟩))

-- dict.fromkeys, bound
noncomputable def fkB : Obj := { cls := .type "builtin_function_or_method", data := .fields #[.builtin "dict.fromkeys", .type "dict"] }
theorem type_fk : typeOf (.builtin "dict.fromkeys") = pure (.type "classmethod_descriptor") := by show builtinType _ = _; rw [builtinType_eq_fast]; kernel_rfl
theorem quiet_fk {as : Args} : (Code.builtin "dict.fromkeys" as).quiet = true := Code.quiet_builtin _ (by decide +kernel)
theorem isType_dict : isType (.type "dict") = pure true := by first | rfl | kernel_rfl | (unfold isType; rw [isSubtype_type]; kernel_rfl)
theorem owner_fk : (kfb_private% "ownerAndName") "dict.fromkeys" = ("dict", "fromkeys") := by first | decide +kernel | kernel_rfl
theorem fk_get {M : Model} {s : Shared} {E : Value → Shared → Prop} {P : Fin → Shared → Prop} (h : P (.done (.ret (.ref s.heap.objs.size))) { s with heap := s.heap.push fkB }) :
    wpAny M A (Builtin.«classmethod_descriptor.__get__» ⟨[.builtin "dict.fromkeys", .none, .type "dict"], []⟩) P E s := by
  unfold Builtin.«classmethod_descriptor.__get__»
  refine wpAny_bind (wpAny_of_eq (a := (.builtin "dict.fromkeys", none, some (.type "dict"))) (by first | rfl | kernel_rfl) ?_)
  simp only [owner_fk]
  refine wpAny_bind (wpAny_of_eq (a := .type "dict") rfl ?_)
  refine wpAny_bind (wpAny_of_eq (a := true) isType_dict ?_)
  refine KFB.if_not rfl ?_
  refine wpAny_bind (wpAny_of_eq (a := true) F.kt_sub_dict ?_)
  refine KFB.if_not rfl ?_
  exact wpAny_bind (wpAny_newObj_type (wpAny_pure h))
theorem findCls_fk : findCls [] (.type "dict") (.type "type") (PySem.Str.ofString "fromkeys") = some (.get (.builtin "classmethod_descriptor.__get__") (.builtin "dict.fromkeys") .none (.type "dict")) := by first | rfl | kernel_rfl | decide +kernel
theorem fk_getm {s : Shared} {E : Value → Shared → Prop} {pl : Sem Bool} {Q : Value × List Value → Shared → Prop} (h : Q (.ref s.heap.objs.size, []) { s with heap := s.heap.push fkB, toks := s.toks + 1 }) :
    wpAny (model prog w) A (getMethod (.type "dict") (PySem.Str.ofString "fromkeys") pl) Q E s := by
  have X : Frag.In [] s.heap := fun a o e => nomatch e
  have hstub : opaqueClassAbove (.type "dict") = pure none := by unfold opaqueClassAbove; dsimp only; rw [show Manifest.isStub "dict" = false by decide +kernel]; rfl
  have ht : typeOf (.type "dict") = pure (.type "type") := by first | rfl | kernel_rfl
  have L0 : Looks (model prog w) s.heap (typeOf (.type "dict")) (.type "type") := Looks.of_pure ht
  have hg : findIn [] (.type "type") "__getattribute__" = some (some (.builtin "type.__getattribute__")) := type_tga
  unfold getMethod specialOf
  refine wpAny_bind (wpAny_bind (L0.here ((looks_findIn X hg).here ?_)))
  dsimp only
  rw [if_pos canon_tga]
  refine wpAny_bind (wpAny_mono (Q := fun v => Q (v, [])) (E := E) ?_ (fun _ _ z => wpAny_pure z) fun _ _ z => z)
  have LO : Looks (model prog w) s.heap (opaqueClassAbove (.type "dict")) none := Looks.of_pure hstub
  refine cls_open X LO L0 hg (looks_hook X (r := none) (by rfl)) (by show subIn [] _ _ = _; rfl) findCls_fk ?_
  show wpAny _ _ (holding [.builtin "dict.fromkeys"] (call (.builtin "classmethod_descriptor.__get__") [.builtin "dict.fromkeys", .none, .type "dict"]) >>= fun v => ret v) _ _ _
  refine wpAny_bind (wpAny_holding (wpAny_call_entry KFB.slot_get type_fk KFB.entry_get (fk_get ⟨_, rfl, wpAny_pure (wpAny_pure h)⟩) (KFB.args_get _ _ _)))

theorem check_fk {b : Addr} : checkBoundCall "dict.fromkeys" ⟨[.type "dict", .ref b], []⟩ = pure () := by first | kernel_rfl | rfl
theorem fk_tree {R : Result → Shared → Prop} {s : Shared} {xs : List Str} {vs : List Value} {b : Addr} {n : Nat} (A A' : Around) (hh : A.handled = none) (hh' : A'.handled = none) (hl : vs.length = xs.length) (hlen : xs.length ≤ 10000) (hv : ∀ (i : Nat) (v : Value), vs[i]? = some v → ∃ x t, xs[i]? = some x ∧ v = Value.str x t)
    (hb : s.heap.get? b = some (listO vs n))
    (hR : ∀ d h' tk, d = s.heap.objs.size → (∀ a o, s.heap.get? a = some o → h'.get? a = some o) → h'.DictOf (PySem.strKind prog w) d (nones (ded xs)) → R (.ok (.ret (.ref d))) { s with heap := h', toks := tk }) :
    wpAny (model prog w) A (Builtin.«dict.fromkeys» ⟨[.type "dict", .ref b], []⟩) (fun fin s' => match fin with | .done f => R (.ok f) s' | .again c' => c'.quiet = true ∧ codeAny (model prog w) A' c' R s') (fun e s' => R (.error e) s') s := by
  unfold Builtin.«dict.fromkeys»
  refine wpAny_bind (wpAny_of_eq (a := true) isType_dict ?_)
  refine KFB.if_not rfl ?_
  refine wpAny_bind (wpAny_of_eq (a := true) F.kt_sub_dict ?_)
  refine KFB.if_not rfl ?_
  refine KFB.if_not rfl ?_
  dsimp only
  refine wpAny_bind (wpAny_bind (wpAny_rule (wpAny_pure ?_)))
  refine wpAny_bind (wpAny_pure ?_)
  dsimp only
  refine wpAny_bind (call_dict0 ?_)
  have hb1 : (s.heap.push { cls := .type "dict", data := .dict #[] }).get? b = some (listO vs n) := Heap.get?_push_of_some _ hb
  have hd1 : (s.heap.push { cls := .type "dict", data := .dict #[] }).DictOf (PySem.strKind prog w) s.heap.objs.size [] := Heap.DictOf.new s.heap
  refine wpAny_holding ?_
  refine wpAny_bind (wpAny_typeOf (T := "list") ⟨_, hb1, rfl⟩ ?_)
  refine wpAny_bind (wpAny_typeOf hd1.typeIs ?_)
  refine KFB.if_not (by decide) ?_
  refine wpAny_bind (wpAny_typeOf hd1.typeIs ?_)
  refine KFB.if_not (by decide) ?_
  refine wpAny_bind (wpAny_pyIter_list (items := vs.toArray) ⟨_, hb1, rfl, n, rfl⟩ ?_)
  have hlt := Heap.lt_size hb
  have hsz : (s.heap.push { cls := .type "dict", data := .dict #[] }).objs.size = s.heap.objs.size + 1 := Heap.size_push ..
  refine wpAny_pure ⟨plainId_quiet plain_fkl _, codeAny_builtin entry_fkl ?_⟩
  rw [Around.under_plainId plain_fkl _]
  refine fk_loop hl hlen hv ?_ ?_ ?_ xs.length _ _ 0 [] _ hh' hh' (by lia  ) (Heap.get?_push_of_some _ hb1) ⟨_, Heap.get?_push_size _ rfl, rfl, rfl⟩ (hd1.push _) (Nat.zero_le _) fun h' tk hk hd => ?_
  · rw [hsz]; exact Nat.ne_of_lt (Nat.lt_succ_of_lt hlt)
  · exact Nat.ne_of_lt hlt
  · rw [hsz]; exact Nat.succ_ne_self _
  · refine hR _ h' tk rfl (fun a o e => hk a o (Nat.ne_of_lt (Heap.lt_size e)) ?_ (Heap.get?_push_of_some _ (Heap.get?_push_of_some _ e))) hd
    rw [hsz]; exact Nat.ne_of_lt (Nat.lt_succ_of_lt (Heap.lt_size e))
theorem fk_call {E : Value → Shared → Prop} {Q : Value → Shared → Prop} {s : Shared} {xs : List Str} {vs : List Value} {b x : Addr} {n : Nat} (A : Around) (hh : A.handled = none) (hx : s.heap.get? x = some fkB) (hl : vs.length = xs.length) (hlen : xs.length ≤ 10000) (hv : ∀ (i : Nat) (v : Value), vs[i]? = some v → ∃ x t, xs[i]? = some x ∧ v = Value.str x t)
    (hb : s.heap.get? b = some (listO vs n))
    (hQ : ∀ d h' tk, d = s.heap.objs.size → (∀ a o, s.heap.get? a = some o → h'.get? a = some o) → h'.DictOf (PySem.strKind prog w) d (nones (ded xs)) → Q (.ref d) { s with heap := h', toks := tk }) :
    wpAny (model prog w) A (call (.ref x) [.ref b]) Q E s := by
  refine wpAny_call (codeAny_of_tree ?_)
  show wpAny _ A.in1 (callAny (.ref x) ⟨[.ref b], []⟩) _ _ s
  simp only [callAny]
  refine wpAny_bind (wpAny_load hx ?_)
  simp only [fkB, show (Value.type "builtin_function_or_method" == Value.type "method" || Value.type "builtin_function_or_method" == Value.type "builtin_function_or_method" || Value.type "builtin_function_or_method" == Value.type "method-wrapper") = true by decide, if_true]
  refine KFB.if_so (by decide) ?_
  refine wpAny_bind (wpAny_of_eq (a := ()) check_fk ?_)
  refine wpAny_bind (wpAny_pure (wpAny_pure ?_))
  have t := fk_tree (R := wants Q E) (Around.under A (Code.builtin "dict.fromkeys" ⟨[.type "dict", .ref b], []⟩)) A hh hh hl hlen hv hb hQ
  exact ⟨quiet_fk, codeAny_builtin (R := wants Q E) entry_fk t⟩
theorem fk_callWith {M : Model} {E : Value → Shared → Prop} {s : Shared} {pos : Pos} {u : Addr} {args : List (Bool × Sem Value)} {Q : Value → Shared → Prop} (hplain : args.any (·.1) = false)
    (h : wpAny M A (evalArgs (.ref u) true args []) (fun x s₁ => s₁.heap.get? u = some fkB ∧ wpAny M A (call (.ref u) ([] ++ x.pos) x.kw) Q E s₁) E s) : wpAny M A (callWith pos (.ref u) [] args []) Q E s := by
  unfold callWith
  refine wpAny_bind (wpAny_holding (wpAny_mono h (fun x s₁ h₁ => wpAny_bind (wpAny_standAt ?_)) fun _ _ x => x))
  obtain ⟨ho, hcall⟩ := h₁
  simp only [hplain, List.any_nil, Bool.or_false]
  refine wpAny_bind (m := keeperOf (.ref u)) ?_
  unfold keeperOf
  refine wpAny_bind (wpAny_load ho ?_)
  simp only [fkB, show (Value.type "builtin_function_or_method" != Value.type "method") = true by decide, show (Value.type "builtin_function_or_method" == Value.type "builtin_function_or_method" || Value.type "builtin_function_or_method" == Value.type "method-wrapper") = true by decide, if_true]
  refine wpAny_pure ?_
  exact wpAny_bind (wpAny_mono hcall (fun r s₂ hr => wpAny_bind (wpAny_holding (wpAny_point (wpAny_pure hr)))) fun _ _ x => x)
end

section
variable {c : Cx} {A : Around} {s : Shared} {d : List (Str × LV)} {o : List (Addr × OV)} {fa : Str → Addr} {mg mb : Str → Option Value}
/-- dict.fromkeys(e) -/
theorem EvP.fromkeys {np apos pos : Pos} {e : Expr} {xs : List Str} {pl : Sem Bool} (T : Tp fa mg mb c.g) (hh : A.handled = none) (H : EvP c A s d o e (.p (SL xs))) (hlen : xs.length ≤ 10000)
    (hk : c.env.scope.kind = .function := by rfl) (hx : c.env.kindOf "dict" = some .globalImplicit := by rfl) (hgl : c.env.globals = mainGlobals := by rfl) (hbl : c.env.builtins = builtinsNs := by rfl)
    (hm : eval (.Call (.Attribute (.Name "dict" np) (Str.ofString "fromkeys") apos) [e] [] pos) c.env = (do
      let v ← eval (.Name "dict" np) c.env
      standAt apos.atName
      let (f, first) ← holding [v] (getMethod v (Str.ofString "fromkeys") pl)
      callWith pos f first (backTo pos (starEach [e] c.env)) []) := by rfl)
    (he : starEach [e] c.env = [(false, eval e c.env)] := by rfl) : EvP c A s d o (.Call (.Attribute (.Name "dict" np) (Str.ofString "fromkeys") apos) [e] [] pos) (.dct c.prog c.w (ded xs)) := by
  intro ts h tk Q E C kk
  have T1 := C.tp T
  have hm2 : (("dict" : Str), Value.type "dict") ∈ bltTable := by first | with_reducible exact mBa | with_reducible exact mBb | with_reducible exact mBc | with_reducible exact mBd | with_reducible exact mBe | with_reducible exact mBf | with_reducible exact mBg | with_reducible exact mBh | with_reducible exact mBi | with_reducible exact mBj | with_reducible exact mBk | with_reducible exact mBl | with_reducible exact mBm | with_reducible exact mBn
  refine MethodCall_ (pl := pl) (wp_blt (hgl ▸ T1.G) (T1.bt _ hm2).1 (hbl ▸ T1.B) (T1.bt _ hm2).2 ?_ hk hx (by decide)) hm
  refine fk_getm ?_
  obtain ⟨X, m, cm, C⟩ := C
  have C1 : Cfg c d o ((.ref h.objs.size, .pin fkB) :: ts) (h.push fkB) := ⟨X, m, cm, (C.ext gr_push).push ⟨_, _, rfl, freshX C.dom, Heap.get?_push_size _ rfl, rfl⟩⟩
  rw [he]
  refine fk_callWith rfl (evalArgs_plain ?_)
  have ha : wpAny (model c.prog c.w) A (spliced (backTo pos (starEach [e] c.env))) (fun vs s₁ => s₁.heap.get? h.objs.size = some fkB ∧ wpAny (model c.prog c.w) A (call (.ref h.objs.size) ([] ++ vs)) Q E s₁) E (St s (h.push fkB) (tk + 1)) := by
    refine args_cons (H _ _ _ _ _ C1 fun u h1 t1 C2 => args_nil ?_) he
    obtain ⟨X, m, cm, C2⟩ := C2
    obtain ⟨obG, _, _, hG1, _⟩ := T.G.keeps C2.stays
    obtain ⟨x, ob, ex, hxx, ho, rfl⟩ := C2.tmps (.ref h.objs.size, .pin fkB) (by simp)
    cases ex
    obtain ⟨b, vs, n, rfl, hb, hd⟩ := denT_list (C2.rd (p := SL xs) (v := u) .pd (by simp))
    have hl : vs.length = xs.length := by rw [hd.length, List.length_map]
    refine ⟨ho, fk_call A hh ho hl hlen (fun i v hv => den_at_str hd hv) hb fun D h' tk' hD hk hdct => ?_⟩
    refine kk _ _ _ ⟨X, m, cm, ((C2.sub_ts fun q hq => List.mem_cons_of_mem _ (List.mem_cons_of_mem _ hq)).ext hk).push ?_⟩
    obtain ⟨ob, es, ep, e1, e2, e3, e4, e5, e6⟩ := hdct
    refine ⟨D, ob, rfl, fun q => ?_, e1, ?_, e2, es, ep, e3, e4, e5, by rw [nones_fst] at e6; exact e6⟩
    · obtain ⟨ob2, q⟩ := C2.dom _ q; rw [newNone hD] at q; cases q
    · have h1 := Heap.lt_size hG1
      have : sysModules ≤ mainGlobals := by decide
      have : D ≠ sysModules := by rw [hD]; exact Nat.ne_of_gt (Nat.lt_of_le_of_lt this h1)
      simpa using this
  rw [he] at ha
  exact ha
end
end Mine
end

section
open PySem PySem.W PyProof.Rows PySem.Calls
open PySem.Builtin PySem.Builtin.Str
set_option linter.unusedVariables false
set_option maxRecDepth 100000
namespace Mine
section
variable {prog : Program} {w : World} {fa : Str → Addr} {mg mb : Str → Option Value}
theorem dedup_binds {s : Shared} {ka : Addr} {u : Value} {doc pm : Value} {an : Option Addr} {cd ct : Value} (hm : s.heap.Ns ka (fun x => if x = ("unhashable_fallback" : Str) then some (.bool false) else none)) :
    BindsTo s (fdOf "_deduplicate" 4 (.ref ka) doc pm an cd ct) ⟨[u], []⟩ [("params", u), ("unhashable_fallback", .bool false)] := by
  intro M A E Q hq
  with_unfolding_all refine wpAny_bind (wpAny_pure ?_)
  with_unfolding_all refine wpAny_bind (wpAny_pure ?_)
  with_unfolding_all refine wpAny_bind (wpAny_pure ?_)
  with_unfolding_all refine wpAny_bind (wpAny_bind (wpAny_bind (wpAny_nsGet hm (wpAny_pure (wpAny_pure ?_)))))
  with_unfolding_all exact wpAny_pure hq
theorem Exs.tryRet {c : Cx} {A : Around} {s : Shared} {d : List (Str × LV)} {o : List (Addr × OV)} {ts : List (Value × LV)} {Q : Flow → Shared → Prop} {E : Value → Shared → Prop} {body rest : List Stmt} {h₀ : ExceptHandler} {hs : List ExceptHandler} {pos : Pos}
    (H : Exs c A s d o ts body (fun f s' => match f with | .ret v => Q (.ret v) s' | _ => False) NoE) : Exs c A s d o ts (.Try body (h₀ :: hs) [] [] pos :: rest) Q E :=
  .cons fun h tk C => wpAny_Try_except (wpAny_mono (H h tk C) (fun f s' q => by cases f <;> first | exact q.elim | exact q) fun _ _ e => e.elim)
theorem dedup_ok {xs : List Str} (hz : xs.length ≤ 10000) : FnC prog w fa mg mb 2 "_deduplicate" (.p (SL xs)) (· = .dct prog w (ded xs)) := by
  intro A s h tk X u Q E hA hh T hX hu kk
  have hm : (("_deduplicate" : Str), 4) ∈ fnTable := by first | with_reducible exact mFa | with_reducible exact mFb | with_reducible exact mFc | with_reducible exact mFd | with_reducible exact mFe | with_reducible exact mFf | with_reducible exact mFg | with_reducible exact mFh | with_reducible exact mFi | with_reducible exact mFj | with_reducible exact mFk
  obtain ⟨hmg, oc, od, osl, kV, doc, pm, an, cd, ct, ho, hcd, hkw⟩ := T.fn _ hm
  obtain ⟨ka, rfl, hns⟩ := hkw rfl
  have hA1 : Room 1 A := hA.le (by lia  )
  let fd := fdOf "_deduplicate" 4 (.ref ka) doc pm an cd ct
  refine wpAny_call (codeAny_call_function (s := St s h tk) (fd := fd) (body := bAt 4) (by have := hA.dp; lia  ) ho rfl rfl rfl rfl hcd ?_)
  refine dedup_binds (s := St s h tk) hns _ _ _ _ ?_
  refine wpAny_newFunctionEnv_cells rfl (fun y hy => ?_) fun env he s₁ I => ?_
  · simp only [List.mem_cons, List.not_mem_nil, or_false] at hy
    rcases hy with rfl | rfl <;> exact .inl rfl
  subst he
  refine ⟨T.lim.keeps I.toInCall.keep, codeAny_func ?_⟩
  obtain ⟨h₁, tk₁, hs⟩ := I.toInCall.same
  have C : Cfg (cxOf prog w fd h.objs.size (fa "_deduplicate") h X) [("params", .p (SL xs))] [] [] s₁.heap := by
    refine cfg_enter hX rfl I fun y lv e => ?_
    rw [List.lookup_cons] at e
    cases hb : y == ("params" : Str) with
    | false => rw [hb] at e; cases e
    | true =>
      rw [hb] at e; cases e
      have hy := beq_iff_eq.mp hb
      subst hy
      exact ⟨u, rfl, hu⟩
  have hs' : s₁ = St s s₁.heap s₁.toks := by rw [hs]
  rw [hs']
  have body : Exs (cxOf prog w fd h.objs.size (fa "_deduplicate") h X) (A.deeper (callEnvC fd h.objs.size (fa "_deduplicate"))) s [("params", .p (SL xs))] [] [] (bAt 4) (RetQ (cxOf prog w fd h.objs.size (fa "_deduplicate") h X) s (· = .dct prog w (ded xs))) NoE :=
    Exs.tryRet (Exs.retP (EvP.fromkeys T hh .loc hz) fun v h' tk C => RetQ.of C rfl)
  refine wpAny_mono (body s₁.heap s₁.toks C) (fun f s' hr => ?_) fun _ _ f => f.elim
  obtain ⟨v, r, h', tk', rfl, rfl, hR, g, hd⟩ := hr
  exact kk v r h' tk' hR g hd
end
end Mine
end

section
open PySem PySem.W PyProof.Rows PySem.Calls
open PySem.Builtin PySem.Builtin.Str
set_option linter.unusedVariables false
set_option maxRecDepth 100000
namespace Mine

theorem den_strs_any {h h' : Heap} {X X' : AP} : ∀ {xs : List Str} {vs : List Value}, DenAll h X (xs.map .str) vs → DenAll h' X' (xs.map .str) vs
  | [], _, e => by unfold DenAll at *; exact e
  | x :: xs, _, e => by
    simp only [List.map_cons] at e ⊢
    unfold DenAll at *
    obtain ⟨v, r, rfl, h1, h2⟩ := e
    unfold Den at h1
    obtain ⟨t, rfl⟩ := h1
    exact ⟨_, _, rfl, den_str, den_strs_any h2⟩
noncomputable def ownsL (as : List Addr) (rs : List (List Str)) : List (Addr × OV) := (as.zip rs).map fun q => (q.1, .lst (q.2.map .str))
theorem ownsL_snoc {as : List Addr} {rs : List (List Str)} {a : Addr} {r : List Str} (h : as.length = rs.length) : ownsL (as ++ [a]) (rs ++ [r]) = ownsL as rs ++ [(a, .lst (r.map .str))] := by
  unfold ownsL; rw [List.zip_append h]; simp
noncomputable abbrev refsO (as : List Addr) (n : Nat) : Obj := listO (as.map Value.ref) n

section
variable {c : Cx} {A : Around} {s : Shared} {d : List (Str × LV)} {o : List (Addr × OV)} {ts : List (Value × LV)}

/-- leaving a comprehension: what its frame owned passes to the frame around it -/
theorem comp_leaveG {scope : Scope} {cl : List (Str × Addr)} {X : AP} {m cm : Str → Option Value} {v : Value} {l0 : LV} {h1 h2 : Heap} {L' : Addr} {d' : List (Str × LV)} {os : List (Addr × OV)} {tsN : List (Value × LV)}
    (C1 : CfgI c X m cm d o ((v, l0) :: ts) h1) (C2 : Cfg (compCx c scope cl L' h1 X) d' os tsN h2) :
    ∃ ob, Cfg c d ((L', .raw ob) :: os ++ o) ts h2 ∧ ∃ es ep, ob.data = .dict es ep ∧ StrKeys es := by
  obtain ⟨X', m', cm', C2⟩ := C2
  obtain ⟨ob, es, ep, hL, hdat, hk, _⟩ := C2.ns
  refine ⟨ob, ?_, es, ep, hdat, hk⟩
  have key := (C1.sub_ts (ts' := ts) fun q hq => List.mem_cons_of_mem _ hq).news (os := (L', .raw ob) :: os) (h' := h2) C2.stays
    (fun q hq => by
      rcases List.mem_cons.mp hq with rfl | hq
      · exact C2.gL
      · exact (C2.owns q hq).2.2.2.1)
    (by
      rw [List.map_cons, List.nodup_cons]
      refine ⟨fun q => ?_, C2.nodup⟩
      obtain ⟨p, hp, e⟩ := List.mem_map.mp q
      exact (C2.owns p hp).2.2.2.2.1 e)
    (fun q hq => by
      have out : ∀ b, (X b ∨ b ∈ (((L', OV.raw ob) :: os).map (·.1))) → X' b := fun b q => by
        rcases q with q | q
        · exact C2.sub _ q
        · obtain ⟨p, hp, rfl⟩ := List.mem_map.mp q
          rcases List.mem_cons.mp hp with rfl | hp
          · exact C2.XL
          · exact (C2.owns p hp).2.1
      rcases List.mem_cons.mp hq with rfl | hq
      · exact hL
      · have OD := (C2.owns q hq).1
        obtain ⟨a, ov⟩ := q
        cases ov with
        | lst xs =>
          obtain ⟨vs, n, e1, e2⟩ := OD
          exact ⟨vs, n, e1, e2.mono fun b ob e n' => ⟨e, fun q => n' (out b q)⟩⟩
        | raw ob2 => exact OD)
  exact ⟨_, m, cm, key⟩
theorem OVden.raw0 {h : Heap} {X : AP} {D : Addr} (e : OVden h X D (.lst [])) : ∃ n, h.get? D = some (refsO [] n) := by
  obtain ⟨vs, n, e1, e2⟩ := e
  unfold DenAll at e2
  subst e2
  exact ⟨n, e1⟩
theorem extBut_refl {a : Addr} {h : Heap} : Heap.ExtBut a h h := fun _ _ _ e => e
/-- a list of references is let go: from now on it stays -/
theorem CfgI.refs {X : AP} {m cm : Str → Option Value} {h : Heap} {D : Addr} {as : List Addr} {n : Nat} (C : CfgI c X m cm d ((D, .raw (refsO as n)) :: o) ts h) : CfgI c (fun b => X b ∧ b ≠ D) m cm d o ((.ref D, .refs as) :: ts) h :=
  (C.dropE extBut_refl).push ⟨D, n, rfl, fun q => q.2 rfl, (C.owns _ List.mem_cons_self).1⟩

/-- one turn of a comprehension whose elements are lists of their own -/
theorem step_own {elt : Expr} {D I : Addr} {ob : Obj} {as : List Addr} {rs : List (List Str)} {n : Nat} {r : List Str} {h : Heap} {tk : Nat} {Q : Unit → Shared → Prop} {E : Value → Shared → Prop} {tsN : List (Value × LV)}
    (C : Cfg c d ((I, .raw ob) :: (D, .raw (refsO as n)) :: ownsL as rs) tsN h) (He : ∀ o, Ev c A s d o elt (fun lv o' => ∃ a, lv = .at a ∧ o' = (a, .lst (r.map .str)) :: o)) (hz : as.length ≤ 1000) (hl : as.length = rs.length)
    (k : ∀ h' tk' a n', Cfg c d ((I, .raw ob) :: (D, .raw (refsO (as ++ [a]) n')) :: ownsL (as ++ [a]) (rs ++ [r])) tsN h' → Q () (St s h' tk')) :
    wpAny (model c.prog c.w) A (ifsTree [] c.env) (fun ok s₃ => if ok = true then wpAny (model c.prog c.w) A (eval elt c.env) (fun x s₄ => wpAny (model c.prog c.w) A (call (.builtin "list.append") [.ref D, x]) (fun _ s₅ => Q () s₅) E s₄) E s₃ else Q () s₃) E (St s h tk) := by
  refine ifs_nil ?_
  rw [if_pos rfl]
  refine He _ _ _ _ _ _ C fun x h2 t2 lv o' hR C2 => ?_
  obtain ⟨a, rfl, rfl⟩ := hR
  obtain ⟨X, m, cm, C2⟩ := C2
  have e0 : x = .ref a := C2.tmps (x, .at a) (by simp)
  subst e0
  have e2 : h2.get? D = some (refsO as n) := (C2.owns (D, .raw (refsO as n)) (by simp)).1
  refine wpAny_list_append_plain (items := (as.map Value.ref).toArray) ⟨n, e2⟩ (fun h3 hp hs3 => ?_) (by rw [List.size_toArray, List.length_map]; exact line_of hz)
  obtain ⟨n3, e3⟩ := hp
  have e4 : h3.get? D = some (refsO (as ++ [a]) n3) := by rw [e3]; simp [refsO, listO]
  have C3 := C2.up (a := D) (ov := .raw (refsO as n)) (ov' := .raw (refsO (as ++ [a]) n3)) (.tail (.tail .head)) hs3 e4
  refine k h3 t2 a n3 (Cfg.perm_o (⟨X, m, cm, C3.sub_ts fun q hq => List.mem_cons_of_mem _ hq⟩ : Cfg c d _ tsN h3) ?_)
  rw [ownsL_snoc hl]
  exact (List.Perm.cons _ (List.Perm.cons _ (List.perm_append_singleton _ _))).trans ((List.Perm.cons _ (List.Perm.swap _ _ _)).trans (List.Perm.swap _ _ _))

/-- a comprehension over data whose elements are lists of their own -/
structure CompN (c : Cx) (A : Around) (s : Shared) (d : List (Str × LV)) (elt target : Expr) (scope : Scope) (cl : List (Str × Addr)) (d₀ : List (Str × LV)) (up : LV → List (Str × LV) → List (Str × LV)) (items : List LV) (f : LV → List Str) : Prop where
  tgt : ∀ L' g X y, y ∈ items → CTgt (compCx c scope cl L' g X) A s target y d₀ (up y d₀)
  elt : ∀ L' g X y o, Gr c.g g → y ∈ items → Ev (compCx c scope cl L' g X) A s (up y d₀) o elt (fun lv o' => ∃ a, lv = .at a ∧ o' = (a, .lst ((f y).map .str)) :: o)
  keep : ∀ y n lv, d₀.lookup n = some lv → (up y d₀).lookup n = some lv
  size : items.length ≤ 1000
theorem Ev.compOwn {elt target iter : Expr} {scope : Scope} {pos : Pos} {cl : List (Str × Addr)} {l0 : LV} {items : List LV} {K : Obj → Prop} {d₀ : List (Str × LV)} {up : LV → List (Str × LV) → List (Str × LV)} {f : LV → List Str}
    (ok : CompOk c scope cl iter d d₀) (H : EvP c A s d o iter l0) (hit : IterTo c A s d o l0 items K) (hK : ∀ ob, K ob → ob.cls = .type "list_iterator" ∨ (∀ it v, letOwnedTupleGo target it v = pure ()))
    (P : CompN c A s d elt target scope cl d₀ up items f) :
    Ev c A s d o (.ListComp elt [⟨target, iter, [], 0⟩] scope pos) (fun lv o' => ∃ as, as.length = items.length ∧ lv = .refs as ∧ o' = ownsL as (items.map f) ++ o) := by
  intro ts h tk Q E C k
  rw [eval_ListComp]
  refine comp_wrap up (fun D done o' => (done = [] ∧ o' = [(D, .lst [])]) ∨ ∃ as n, as.length = done.length ∧ o' = (D, .raw (refsO as n)) :: ownsL as (done.map f)) ok C H hit hK (fun D => .inl ⟨rfl, rfl⟩) P.tgt ?_ ?_
  · rintro X m cm v h1 L' D tsN C1 done y rest' o' I ob h tk Q E hsp hacc C2 k
    have hy : y ∈ items := by rw [hsp]; simp
    have hdl : done.length ≤ 1000 := by have := P.size; rw [hsp] at this; simp at this; lia  
    obtain ⟨as, n, hl, C3⟩ : ∃ as n, as.length = done.length ∧ Cfg (compCx c scope cl L' h1 X) (up y d₀) ((I, .raw ob) :: (D, .raw (refsO as n)) :: ownsL as (done.map f)) tsN h := by
      rcases hacc with ⟨rfl, rfl⟩ | ⟨as, n, hl, rfl⟩
      · obtain ⟨X2, m2, cm2, C2⟩ := C2
        obtain ⟨n, e⟩ := OVden.raw0 (C2.owns (D, .lst []) (by simp)).1
        exact ⟨[], n, rfl, X2, m2, cm2, C2.upE (ov := .lst []) (ov' := .raw (refsO [] n)) (.tail .head) extBut_refl e⟩
      · exact ⟨as, n, hl, C2⟩
    exact step_own (r := f y) C3 (fun o => P.elt _ _ _ _ o C1.stays hy) (by lia  ) (by simpa using hl) fun h' tk' a n' C4 => k h' tk' _ _ (P.keep y) (.inr ⟨as ++ [a], n', by simp [hl], rfl⟩) (by rw [List.map_append]; exact C4)
  · rintro X m cm v h1 L' D d' o' tsN h2 t2 C1 hacc C2
    obtain ⟨as, n, hl, C3⟩ : ∃ as n, as.length = items.length ∧ Cfg (compCx c scope cl L' h1 X) d' ((D, .raw (refsO as n)) :: ownsL as (items.map f)) tsN h2 := by
      rcases hacc with ⟨e0, rfl⟩ | ⟨as, n, hl, rfl⟩
      · obtain ⟨X2, m2, cm2, C2⟩ := C2
        obtain ⟨n, e⟩ := OVden.raw0 (C2.owns (D, .lst []) (by simp)).1
        refine ⟨[], n, by simp [e0], X2, m2, cm2, ?_⟩
        rw [e0]
        exact C2.upE (ov := .lst []) (ov' := .raw (refsO [] n)) .head extBut_refl e
      · exact ⟨as, n, hl, C2⟩
    obtain ⟨ob, C4, es, ep, hdat, hk⟩ := comp_leaveG C1 C3
    obtain ⟨X4, m4, cm4, C4⟩ := C4
    have hL := (C4.owns (L', .raw ob) (by simp)).1
    exact ⟨nsFind es, ⟨ob, es, ep, hL, hdat, hk, fun _ => rfl⟩, fun h' hs => k _ _ _ _ _ ⟨as, hl, rfl, rfl⟩ ⟨_, m4, cm4, by
      have C5 := (C4.dropE hs.extBut)
      exact (C5.refs).sub_ts fun q hq => by
        simp only [List.mem_cons] at hq ⊢
        rcases hq with hq | hq
        · exact .inl hq
        · exact .inr hq⟩⟩
end
end Mine
end

section
open PySem PySem.W PyProof.Rows PySem.Calls
open PySem.Builtin PySem.Builtin.Str
set_option linter.unusedVariables false
set_option maxRecDepth 100000
namespace Mine
/-- a slice's new list, of the frame's own -/
noncomputable def SlNew (A : Around) (p : PyData) (lo hi st : Option Int) (ys : List PyData) : Prop := ∀ (prog : Program) (w : World) (s : Shared) (h : Heap) (tk : Nat) (X : AP) (u : Value) (sl : Addr) (vl vu vs : Value) (Q : Value → Shared → Prop) (E : Value → Shared → Prop),
  Room 1 A → XD X h → DenT h X p u → h.get? sl = some { cls := .type "slice", data := .fields #[vl, vu, vs] } → Den h X (partD lo) vl → Den h X (partD hi) vu → Den h X (partD st) vs →
  (∀ a us n h' tk', h.get? a = none → Gr h h' → h'.get? a = some (listO us n) → DenAll h X ys us → Q (.ref a) (St s h' tk')) → wpAny (model prog w) A (getItem u (.ref sl)) Q E (St s h tk)
section
variable {c : Cx} {A : Around} {s : Shared} {d : List (Str × LV)} {o : List (Addr × OV)} {ts : List (Value × LV)} {fa : Str → Addr} {mg mb : Str → Option Value}
theorem slN_core {xs ys : List PyData} {lo hi st : Option Int} (h0 : st ≠ some 0) (hz : xs.length ≤ sizeLine) (hp : ∀ (h : Heap) (X : AP) (vs : List Value), DenAll h X xs vs → DenAll h X ys (slicePick vs.toArray lo hi st).toList) : SlNew A (.list xs) lo hi st ys := by
  intro prog w s h tk X u sl vl vu vst Q E hA hX h1 hsl d1 d2 d3 k
  obtain ⟨a, vs, n, rfl, ho, hd⟩ := denT_list h1
  have hl := hd.length
  refine wpAny_getItem_list_slice (items := vs.toArray) (sl := sl) ⟨_, ho, rfl, n, rfl⟩ ⟨_, hsl, rfl, rfl⟩ (partD.is d1) (partD.is d2) (partD.is d3) h0 ?_ (by simp; lia  )
  have e : slicePick vs.toArray lo hi st = (slicePick vs.toArray lo hi st).toList.toArray := by simp
  rw [e]
  exact k _ _ 0 _ tk (newNone rfl) gr_push (Heap.get?_push_size _ rfl) (hp h X vs hd)
theorem slN_rev {xs : List PyData} (hz : xs.length ≤ sizeLine) : SlNew A (.list xs) none none (some (-1)) xs.reverse :=
  slN_core (by simp) hz fun h X vs hd => by rw [krv_pick]; simpa using hd.reverse
theorem CfgI.newOwn {X : AP} {m cm : Str → Option Value} {h h' : Heap} {a : Addr} {us : List Value} {n : Nat} {ys : List PyData} (C : CfgI c X m cm d o ts h) (ha : h.get? a = none) (g : Gr h h') (e : h'.get? a = some (listO us n)) (hd : DenAll h X ys us) :
    Cfg c d ((a, .lst ys) :: o) ((.ref a, .at a) :: ts) h' := ⟨_, m, cm, C.new g ha ⟨us, n, e, hd.mono (.fresh g ha)⟩⟩
theorem Ev.sliceN {l : Expr} {lower upper step : Option Expr} {pos pp : Pos} {l1 : LV} {p : PyData} {ys : List PyData} {lo hi st : Option Int} (hA : Room 1 A) (H1 : EvP c A s d o l l1) (Hl : EvPart c A s d o lower lo) (Hu : EvPart c A s d o upper hi)
    (Hs : EvPart c A s d o step st) (r1 : Rd o l1 p) (hg : HasGet p) (hop : SlNew A p lo hi st ys)
    (hs : ∀ a b, ∃ ops, subscripted (.Slice lower upper step pp) false a b = operate ops (getItem a b) := by intro _ _; exact ⟨_, rfl⟩) : Ev c A s d o (.Subscript l (.Slice lower upper step pp) pos) (fun lv o' => ∃ a, lv = .at a ∧ o' = (a, .lst ys) :: o) := by
  intro ts h tk Q E C k
  refine Subscript_ (H1 _ _ _ _ _ C fun u h1 t1 C1 => wpAny_Slice (Hl _ _ _ _ _ C1 fun v2 h2 t2 C2 => Hu _ _ _ _ _ C2 fun v3 h3 t3 C3 => Hs _ _ _ _ _ C3 fun v4 h4 t4 C4 => ?_))
  obtain ⟨X, m, cm, C4⟩ := C4
  obtain ⟨T, id, hl, hT⟩ := hg
  obtain ⟨ops, ho⟩ := hs u (.ref h4.objs.size)
  have C5 := C4.ext (h' := h4.push { cls := .type "slice", data := .fields #[v2, v3, v4] }) fun a ob e => Heap.get?_push_of_some _ e
  have D1 := C5.tmps (v2, .p (partD lo)) (by simp)
  have D2 := C5.tmps (v3, .p (partD hi)) (by simp)
  have D3 := C5.tmps (v4, .p (partD st)) (by simp)
  refine tail_any (hT _ X u s t4 (C5.rd r1 (by simp))) hl (hop _ _ _ _ _ X _ _ _ _ _ _ _ hA C5.dom (C5.rd r1 (by simp)) (Heap.get?_push_size _ rfl) D1 D2 D3 fun a us n h5 t5 ha g e hd => k _ _ _ _ _ ⟨a, rfl, rfl⟩ ?_) ho
  exact (C5.sub_ts (ts' := ts) fun q hq => by simp [hq]).newOwn ha g e hd
/-- list(e): a list of the frame's own -/
theorem Ev.listN {np pos : Pos} {e : Expr} {l1 : LV} {xs : List PyData} (T : Tp fa mg mb c.g) (H : EvP c A s d o e l1) (r1 : Rd o l1 (.list xs)) (hz : xs.length ≤ sizeLine)
    (hk : c.env.scope.kind = .function := by rfl) (hx : c.env.kindOf "list" = some .globalImplicit := by rfl) (hgl : c.env.globals = mainGlobals := by rfl) (hbl : c.env.builtins = builtinsNs := by rfl)
    (he : starEach [e] c.env = [(false, eval e c.env)] := by rfl) : Ev c A s d o (.Call (.Name "list" np) [e] [] pos) (fun lv o' => ∃ a, lv = .at a ∧ o' = (a, .lst xs) :: o) := by
  intro ts h tk Q E C kk
  have T1 := C.tp T
  have hm : (("list" : Str), Value.type "list") ∈ bltTable := by first | with_reducible exact mBa | with_reducible exact mBb | with_reducible exact mBc | with_reducible exact mBd | with_reducible exact mBe | with_reducible exact mBf | with_reducible exact mBg | with_reducible exact mBh | with_reducible exact mBi | with_reducible exact mBj | with_reducible exact mBk | with_reducible exact mBl | with_reducible exact mBm | with_reducible exact mBn
  refine Call_ (wp_blt (hgl ▸ T1.G) (T1.bt _ hm).1 (hbl ▸ T1.B) (T1.bt _ hm).2 ?_ hk hx (by decide))
  refine callWith_type1 (args_cons (H _ _ _ _ _ C fun u h1 t1 C1 => args_nil ?_) he) he
  obtain ⟨X, m, cm, C1⟩ := C1
  obtain ⟨a, vs, n, rfl, ho, hd⟩ := denT_list (C1.rd r1 (v := u) (by simp))
  have hl := hd.length
  refine call_list_seq a (.inl rfl) ho rfl rfl (fun h' c' g hD => ?_) (by simp; lia  )
  exact kk _ _ _ _ _ ⟨_, rfl, rfl⟩ ((C1.sub_ts (ts' := ts) fun q hq => List.mem_cons_of_mem _ hq).newOwn (newNone rfl) g hD hd)

/-- a row of references and one more -/
theorem Ev.addRefs {l e : Expr} {pos pl : Pos} {rs : List (List Str)} {r : List Str} (H1 : Ev c A s d o l (fun lv o' => ∃ as, as.length = rs.length ∧ lv = .refs as ∧ o' = ownsL as rs ++ o)) (H2 : ∀ o, Ev c A s d o e (fun lv o' => ∃ a, lv = .at a ∧ o' = (a, .lst (r.map .str)) :: o)) (hz : rs.length ≤ 1000)
    (he : starEach [e] c.env = [(false, eval e c.env)] := by rfl) : Ev c A s d o (.BinOp l .Add (.List [e] pl) pos) (fun lv o' => ∃ as, as.length = (rs ++ [r]).length ∧ lv = .refs as ∧ o' = ownsL as (rs ++ [r]) ++ o) := by
  intro ts h tk Q E C k
  refine wpAny_BinOp (H1 _ _ _ _ _ C fun u h1 t1 lv1 o1 hR1 C1 => wpAny_List (args_cons (H2 _ _ _ _ _ _ C1 fun v h2 t2 lv2 o2 hR2 C2 => args_nil ⟨line_of (by simp), ?_⟩) he))
  obtain ⟨as, hl, rfl, rfl⟩ := hR1
  obtain ⟨a, rfl, rfl⟩ := hR2
  obtain ⟨X, m, cm, C2⟩ := C2
  obtain ⟨b, n, e0, hx, ho⟩ := C2.tmps (u, .refs as) (by simp)
  have e0 : u = .ref b := e0
  subst e0
  have e1 : v = .ref a := C2.tmps (v, .at a) (by simp)
  subst e1
  have ho1 : (h2.push { cls := .type "list", data := .seq #[Value.ref a] }).get? b = some (refsO as n) := Heap.get?_push_of_some _ ho
  have C3 := C2.ext (h' := h2.push { cls := .type "list", data := .seq #[Value.ref a] }) gr_push
  refine P.add_list (s := St s (h2.push { cls := .type "list", data := .seq #[Value.ref a] }) t2) (items := (as.map Value.ref).toArray) (items2 := #[Value.ref a]) (n := n) (n2 := 0) ho1 (Heap.get?_push_size _ rfl) ?_ (by simp; exact line2 (by lia  ))
  have e : (as.map Value.ref).toArray ++ #[Value.ref a] = ((as ++ [a]).map Value.ref).toArray := by simp
  rw [e]
  refine k _ _ _ _ _ ⟨as ++ [a], by simp [hl], rfl, rfl⟩ (Cfg.perm_o (⟨X, m, cm, ((C3.sub_ts (ts' := ts) fun q hq => by simp [hq]).ext gr_push).push (lv := .refs (as ++ [a])) ⟨_, 0, rfl, freshX C3.dom, Heap.get?_push_size _ rfl⟩⟩ : Cfg c d _ _ _) ?_)
  rw [ownsL_snoc hl]
  rw [List.append_assoc]
  exact List.perm_middle
end
end Mine
end

section
open PySem PySem.W PyProof.Rows PySem.Calls
open PySem.Builtin PySem.Builtin.Str
set_option linter.unusedVariables false
set_option maxRecDepth 100000
namespace Mine
section
variable {c : Cx} {A : Around} {s : Shared} {d : List (Str × LV)} {o : List (Addr × OV)} {ts : List (Value × LV)} {Q : Flow → Shared → Prop} {E : Value → Shared → Prop}

theorem op_is_none_str {x : Str} : Op2 A (compareOp .Is) (.str x) .none (.bool false) := by
  intro prog w s h tk X u v Q E hA hX h1 h2 k
  obtain ⟨t, rfl⟩ := denT_str h1
  have h2 : Den h X .none v := h2
  unfold Den at h2
  subst h2
  exact is_str_none (k _ h tk gr_refl den_bool)
theorem op_is_none_none : Op2 A (compareOp .Is) .none .none (.bool true) := by
  intro prog w s h tk X u v Q E hA hX h1 h2 k
  have h1 : Den h X .none u := h1
  have h2 : Den h X .none v := h2
  unfold Den at h1 h2
  subst h1; subst h2
  exact wpAny_is_self (by rfl) (k _ h tk gr_refl den_bool)

/-- a list of references in a test -/
theorem TsP.refs {e : Expr} {as : List Addr} (H : EvP c A s d o e (.refs as)) (hz : as.length ≤ 1000)
    (he : ∀ whole, isTrue e c.env whole = (do let v ← whole; standAt e.pos; holding [v] (truthy v)) := by intro _; rfl) : TsP c A s d o e (!as.isEmpty) := by
  intro ts h tk Q E C k
  refine isTrue_plain (H _ _ _ _ _ C fun u h1 t1 C1 => ?_) (he _)
  obtain ⟨X, m, cm, C1⟩ := C1
  obtain ⟨b, n, e0, hx, ho⟩ := C1.tmps (u, .refs as) (by simp)
  have e0 : u = .ref b := e0
  subst e0
  have := sizeLine_lt (line_of hz)
  refine wpAny_truthy_list (items := (as.map Value.ref).toArray) ⟨_, ho, rfl, n, rfl⟩ (by simp; lia  ) ?_
  have e1 : (!((as.map Value.ref).toArray).isEmpty) = (!as.isEmpty) := by cases as <;> simp
  rw [e1]
  exact k _ _ ⟨X, m, cm, C1.sub_ts fun q hq => List.mem_cons_of_mem _ hq⟩
/-- an object of the heap that the frame began with, in a test -/
theorem TsP.gat {e : Expr} {a : Addr} {vs : List Value} {n : Nat} (H : EvP c A s d o e (.at a)) (hg : c.g.get? a = some (listO vs n)) (hz : vs.length ≤ 1000)
    (he : ∀ whole, isTrue e c.env whole = (do let v ← whole; standAt e.pos; holding [v] (truthy v)) := by intro _; rfl) : TsP c A s d o e (!vs.isEmpty) := by
  intro ts h tk Q E C k
  refine isTrue_plain (H _ _ _ _ _ C fun u h1 t1 C1 => ?_) (he _)
  obtain ⟨X, m, cm, C1⟩ := C1
  have e0 : u = .ref a := C1.tmps (u, .at a) (by simp)
  subst e0
  have := sizeLine_lt (line_of hz)
  refine wpAny_truthy_list (items := vs.toArray) ⟨_, C1.stays _ _ hg, rfl, n, rfl⟩ (by simp; lia  ) ?_
  have e1 : (!vs.toArray.isEmpty) = (!vs.isEmpty) := by cases vs <;> simp
  rw [e1]
  exact k _ _ ⟨X, m, cm, C1.sub_ts fun q hq => List.mem_cons_of_mem _ hq⟩

/-- one turn of a comprehension that keeps references -/
theorem step_refs {t elt : Expr} {D I a : Addr} {ob : Obj} {bs : List Addr} {n : Nat} {b : Bool} {h : Heap} {tk : Nat} {Q : Unit → Shared → Prop} {E : Value → Shared → Prop} {tsN : List (Value × LV)}
    (C : Cfg c d [(I, .raw ob), (D, .raw (refsO bs n))] tsN h) (Hi : ∀ o, TsP c A s d o t b) (He : ∀ o, EvP c A s d o elt (.at a)) (hz : bs.length ≤ 1000)
    (k : ∀ h' tk' n', Cfg c d [(I, .raw ob), (D, .raw (refsO (if b then bs ++ [a] else bs) n'))] tsN h' → Q () (St s h' tk')) :
    wpAny (model c.prog c.w) A (ifsTree [t] c.env) (fun ok s₃ => if ok = true then wpAny (model c.prog c.w) A (eval elt c.env) (fun x s₄ => wpAny (model c.prog c.w) A (call (.builtin "list.append") [.ref D, x]) (fun _ s₅ => Q () s₅) E s₄) E s₃ else Q () s₃) E (St s h tk) := by
  refine ifs_one (Hi _ _ _ _ _ _ C fun h1 t1 C1 => ?_)
  cases b with
  | false => simpa using k h1 t1 n (by simpa using C1)
  | true =>
    rw [if_pos rfl]
    refine He _ _ _ _ _ _ C1 fun x h2 t2 C2 => ?_
    obtain ⟨X, m, cm, C2⟩ := C2
    have e0 : x = .ref a := C2.tmps (x, .at a) (by simp)
    subst e0
    have e2 : h2.get? D = some (refsO bs n) := (C2.owns (D, .raw (refsO bs n)) (by simp)).1
    refine wpAny_list_append_plain (items := (bs.map Value.ref).toArray) ⟨n, e2⟩ (fun h3 hp hs3 => ?_) (by rw [List.size_toArray, List.length_map]; exact line_of hz)
    obtain ⟨n3, e3⟩ := hp
    have e4 : h3.get? D = some (refsO (bs ++ [a]) n3) := by rw [e3]; simp [refsO, listO]
    have C3 := C2.up (a := D) (ov := .raw (refsO bs n)) (ov' := .raw (refsO (bs ++ [a]) n3)) (.tail .head) hs3 e4
    exact k h3 t2 n3 ⟨X, m, cm, C3.sub_ts fun q hq => List.mem_cons_of_mem _ hq⟩
noncomputable def adr : LV → Addr
  | .at a => a
  | _ => 0
theorem Exs.setCompRefs {elt target iter t : Expr} {scope : Scope} {pos spos px : Pos} {x : Str} {rest : List Stmt} {cl : List (Str × Addr)} {as : List Addr} {p : Addr → Bool} {d₀ : List (Str × LV)}
    {up : LV → List (Str × LV) → List (Str × LV)} (hh : A.handled = none) (ok : CompOk c scope cl iter d d₀) (H : EvP c A s d o iter (.refs as)) (hK : ∀ ob : Obj, ob.cls = .type "list_iterator" → ob.cls = .type "list_iterator" ∨ (∀ it v, letOwnedTupleGo target it v = pure ()))
    (tgt : ∀ L' g X a, a ∈ as → CTgt (compCx c scope cl L' g X) A s target (.at a) d₀ (up (.at a) d₀))
    (tst : ∀ X m cm ts' h L', CfgI c X m cm d o ts' h → ∀ a o', a ∈ as → TsP (compCx c scope cl L' h X) A s (up (.at a) d₀) o' t (p a))
    (elt' : ∀ L' g X a o', a ∈ as → EvP (compCx c scope cl L' g X) A s (up (.at a) d₀) o' elt (.at a)) (keep : ∀ y n lv, d₀.lookup n = some lv → (up y d₀).lookup n = some lv) (size : as.length ≤ 1000)
    (k : Exs c A s ((x, .refs (as.filter p)) :: d) o ts rest Q E)
    (hx : c.env.kindOf x = some .local := by rfl) (hkd : c.env.scope.kind = .function := by rfl)
    (hsw : swapsWith (.ListComp elt [⟨target, iter, [t], 0⟩] scope pos) (some (.Name x px)) spos.line c.env = pure true := by rfl) :
    Exs c A s d o ts (.Assign [.Name x px] (.ListComp elt [⟨target, iter, [t], 0⟩] scope pos) spos :: rest) Q E := by
  refine .cons fun h tk C => ?_
  rw [exec_Assign_Name_used _ _ _ _ hsw]
  refine wpAny_bind (wpAny_standAt (wpAny_bind ?_))
  show wpAny _ A (do let _ ← comprehension (.ListComp elt [⟨target, iter, [t], 0⟩] scope pos) scope c.env _ (newList []) false (eval iter c.env) (some (assign (.Name x px) c.env))) _ _ _
  refine wpAny_bind (wpAny_mono (comp_wrap (use := some (assign (.Name x px) c.env)) (Qv := fun _ s' => seqQ c A rest Q E .next s') up (fun D done o' => (done = [] ∧ o' = [(D, .lst [])]) ∨ ∃ n, o' = [(D, .raw (refsO ((done.map adr).filter p) n))]) ok C H (IterTo.refs hh) hK (fun D => .inl ⟨rfl, rfl⟩) (fun L' g X y hy => by
    obtain ⟨a, ha, rfl⟩ := List.mem_map.mp hy
    exact tgt L' g X a ha) ?_ ?_) (fun _ s' hq => wpAny_pure (wpAny_pure hq)) fun _ _ e => e)
  · rintro X m cm v h1 L' D tsN C1 done y rest' o' I ob h tk Q E hsp hacc C2 k
    have hy : y ∈ as.map LV.at := by rw [hsp]; simp
    obtain ⟨a, ha, rfl⟩ := List.mem_map.mp hy
    have hdl : done.length ≤ 1000 := by have := congrArg List.length hsp; simp at this; lia  
    obtain ⟨n, C3⟩ : ∃ n, Cfg (compCx c scope cl L' h1 X) (up (.at a) d₀) [(I, .raw ob), (D, .raw (refsO ((done.map adr).filter p) n))] tsN h := by
      rcases hacc with ⟨rfl, rfl⟩ | ⟨n, rfl⟩
      · obtain ⟨X2, m2, cm2, C2⟩ := C2
        obtain ⟨n, e⟩ := OVden.raw0 (C2.owns (D, .lst []) (by simp)).1
        exact ⟨n, X2, m2, cm2, C2.upE (ov := .lst []) (ov' := .raw (refsO [] n)) (.tail .head) extBut_refl e⟩
      · exact ⟨n, C2⟩
    refine step_refs (b := p a) C3 (fun o' => tst _ _ _ _ _ _ C1 a o' ha) (fun o' => elt' _ _ _ a o' ha) ?_ fun h' tk' n' C4 => k h' tk' _ _ (keep _) (.inr ⟨n', ?_⟩) C4
    · have := List.length_filter_le p (done.map adr); rw [List.length_map] at this; lia  
    · rw [List.map_append, List.filter_append]
      show [(D, OV.raw (refsO (if p a then _ else _) n'))] = [(D, OV.raw (refsO ((done.map adr).filter p ++ [a].filter p) n'))]
      cases hp : p a <;> simp [hp]
  · rintro X m cm v h1 L' D d' o' tsN h2 t2 C1 hacc C2
    obtain ⟨n, C3⟩ : ∃ n, Cfg (compCx c scope cl L' h1 X) d' [(D, .raw (refsO (as.filter p) n))] tsN h2 := by
      have e0 : (as.map LV.at).map adr = as := by rw [List.map_map]; exact List.map_id _
      rcases hacc with ⟨e1, rfl⟩ | ⟨n, rfl⟩
      · obtain ⟨X2, m2, cm2, C2⟩ := C2
        obtain ⟨n, e⟩ := OVden.raw0 (C2.owns (D, .lst []) (by simp)).1
        have : as = [] := by simpa using e1
        rw [this]
        exact ⟨n, X2, m2, cm2, C2.upE (ov := .lst []) (ov' := .raw (refsO [] n)) .head extBut_refl e⟩
      · rw [e0] at C2; exact ⟨n, C2⟩
    obtain ⟨ob, C4, es, ep, hdat, hk⟩ := comp_leaveG C1 C3
    show wpAny _ A (assign (.Name x px) c.env (.ref D)) _ _ _
    have C5 : Cfg c d ((L', .raw ob) :: o) ((.ref D, .refs (as.filter p)) :: ts) h2 := by
      have C4' := Cfg.perm_o (o' := (D, .raw (refsO (as.filter p) n)) :: (L', .raw ob) :: o) C4 (by simpa using List.Perm.swap _ _ _)
      obtain ⟨X4, m4, cm4, C4'⟩ := C4'
      exact ⟨_, m4, cm4, C4'.refs⟩
    refine wpAny_assign_Name (stn_loc C5 (fun h3 t3 C6 => ?_) hx hkd)
    obtain ⟨X6, m6, cm6, C6⟩ := C6
    have hL : h3.get? L' = some ob := (C6.owns (L', .raw ob) (by simp)).1
    exact ⟨nsFind es, ⟨ob, es, ep, hL, hdat, hk, fun _ => rfl⟩, fun h' hs => k _ _ ⟨_, m6, cm6, C6.dropE hs.extBut⟩⟩
end
end Mine
end

section
open PySem PySem.W PyProof.Rows PySem.Calls
open PySem.Builtin PySem.Builtin.Str
set_option linter.unusedVariables false
set_option maxRecDepth 100000
namespace Mine
section
variable {c : Cx} {A : Around} {s : Shared} {d : List (Str × LV)} {o : List (Addr × OV)} {ts : List (Value × LV)} {Q : Flow → Shared → Prop} {E : Value → Shared → Prop} {fa : Str → Addr} {mg mb : Str → Option Value}

/-- del x[0] -/
theorem Exs.del0 {e1 e2 : Expr} {p1 pos : Pos} {rest : List Stmt} {a : Addr} {xs : List PyData} {o' : List (Addr × OV)} (H : EvP c A s d o e1 (.at a)) (H2 : EvP c A s d o e2 (.p (.int 0))) (hne : xs ≠ []) (hz : xs.length ≤ 100000) (u : OUp a (.lst xs) (.lst xs.tail) o o')
    (k : Exs c A s d o' ts rest Q E) : Exs c A s d o ts (.Delete [.Subscript e1 e2 p1] pos :: rest) Q E := by
  refine .cons fun h tk C => wpAny_Delete (wpAny_deleteEach_cons (wpAny_delete_Subscript (H _ _ _ _ _ C fun v h1 t1 C1 => H2 _ _ _ _ _ C1 fun v2 h2 t2 C2 => ?_)))
  obtain ⟨X, m, cm, C2⟩ := C2
  have e1 : v = .ref a := C2.tmps (v, .at a) (by simp)
  subst e1
  have d2 : Den h2 X (.int 0) v2 := C2.tmps (v2, .p (.int 0)) (by simp)
  unfold Den at d2
  obtain ⟨t, rfl⟩ := d2
  obtain ⟨vs, n, e2, D2⟩ := (C2.owns _ u.mem).1
  have hl := D2.length
  have hpos : 0 < vs.length := by rw [hl]; exact List.length_pos_iff.mpr hne
  have hsq : seqIndex? 0 vs.toArray.size = some 0 := by simp [seqIndex?, hpos]
  refine delItem_at (its := vs.toArray) (n := n) (i := 0) (k := 0) e2 (by decide) hsq (hsz := by simp; exact line2 (by lia  )) (fun h3 hs3 e3 => ?_)
  refine wpAny_deleteEach_nil (k h3 _ ⟨X, m, cm, (C2.up u hs3 ?_).sub_ts fun q hq => List.mem_cons_of_mem _ (List.mem_cons_of_mem _ hq)⟩)
  have hv : vs.eraseIdx 0 = vs.drop 1 := by cases vs <;> rfl
  refine ⟨vs.drop 1, n + 1, by rw [e3]; simp [listO, hv], ?_⟩
  have := (D2.drop 1).mono (.but hs3 (C2.owns _ u.mem).2.1)
  rwa [List.drop_one] at this

/-- raise RuntimeError('..') -/
theorem Exs.rse {np cpos pos apos : Pos} {k : Nat} {msg : Str} {rest : List Stmt} (T : Tp fa mg mb c.g) (hh : A.handled = none) (hE : ∀ h h' tk e args, Cfg c d o ts h → Heap.MadeExc h h' e "RuntimeError" args → E (.ref e) (St s h' tk))
    (hk : c.env.scope.kind = .function := by rfl) (hx : c.env.kindOf "RuntimeError" = some .globalImplicit := by rfl) (hgl : c.env.globals = mainGlobals := by rfl) (hbl : c.env.builtins = builtinsNs := by rfl)
    (he : starEach [.Constant (.str msg) k apos] c.env = [(false, eval (.Constant (.str msg) k apos) c.env)] := by rfl) :
    Exs c A s d o ts (.Raise (some (.Call (.Name "RuntimeError" np) [.Constant (.str msg) k apos] [] cpos)) none pos :: rest) Q E := by
  refine .cons fun h tk C => ?_
  have T1 := C.tp T
  have hm : (("RuntimeError" : Str), Value.type "RuntimeError") ∈ bltTable := by first | with_reducible exact mBa | with_reducible exact mBb | with_reducible exact mBc | with_reducible exact mBd | with_reducible exact mBe | with_reducible exact mBf | with_reducible exact mBg | with_reducible exact mBh | with_reducible exact mBi | with_reducible exact mBj | with_reducible exact mBk | with_reducible exact mBl | with_reducible exact mBm | with_reducible exact mBn
  refine wpAny_Raise_call PySem.F.excCall_RuntimeError PySem.F.excRaise_RuntimeError hh (by rw [he]; rfl) (wp_blt (hgl ▸ T1.G) (T1.bt _ hm).1 (hbl ▸ T1.B) (T1.bt _ hm).2 ⟨rfl, ?_⟩ hk hx (by decide))
  rw [he]
  refine evalArgs_plain ?_
  have ha : wpAny (model c.prog c.w) A (spliced (backTo cpos (starEach [.Constant (.str msg) k apos] c.env))) (fun vs s₁ => (⟨vs, []⟩ : Args).kw = [] ∧ (⟨vs, []⟩ : Args).pos.length ≤ sizeLine ∧ ∀ h' e, Heap.MadeExc s₁.heap h' e "RuntimeError" (⟨vs, []⟩ : Args).pos → E (.ref e) { s₁ with heap := h' }) E (St s h tk) := by
    refine args_cons (EvP.cstr _ _ _ _ _ C fun u h1 t1 C1 => args_nil ⟨rfl, line_of (by simp), fun h' e hm => hE _ _ _ _ _ (C1.sub_ts fun q hq => List.mem_cons_of_mem _ hq) hm⟩) he
  rw [he] at ha
  exact ha
end

-- the merge
noncomputable def upd (x : Str) (q : List Str) : List Str := if q.head? = some x then q.tail else q
noncomputable def okHead (live : List (List Str)) (x : Str) : Bool := live.all fun r => !(r.tail.contains x)
noncomputable def pickS (live : List (List Str)) : Option Str := (live.find? fun q => okHead live (q.head?.getD "")).map fun q => q.head?.getD ""
noncomputable def c3F : Nat → List (List Str) → List Str → Option (List Str)
  | 0, _, _ => none
  | f + 1, seqs, acc =>
    if (seqs.filter fun q => !q.isEmpty).isEmpty then some acc
    else match pickS (seqs.filter fun q => !q.isEmpty) with
      | none => none
      | some x => c3F f (seqs.map (upd x)) (acc ++ [x])
noncomputable abbrev ownS (as : List Addr) (σ : Addr → List Str) : List (Addr × OV) := as.map fun a => (a, OV.lst ((σ a).map .str))
theorem ownS_mem {as : List Addr} {σ : Addr → List Str} {a : Addr} (h : a ∈ as) : (a, OV.lst ((σ a).map .str)) ∈ ownS as σ := List.mem_map.mpr ⟨a, h, rfl⟩
theorem ownS_up {σ : Addr → List Str} {ys : List Str} : ∀ {as : List Addr} {a : Addr}, as.Nodup → a ∈ as → OUp a (.lst ((σ a).map .str)) (.lst (ys.map .str)) (ownS as σ) (ownS as fun b => if b = a then ys else σ b)
  | b :: r, a, hn, hm => by
    obtain ⟨h1, h2⟩ := List.nodup_cons.mp hn
    by_cases hb : b = a
    · subst hb
      have e : ownS r (fun x => if x = b then ys else σ x) = ownS r σ := by
        apply List.map_congr_left
        intro x hx
        have : x ≠ b := fun q => h1 (q ▸ hx)
        simp [this]
      show OUp _ _ _ _ ((b, OV.lst ((if b = b then ys else σ b).map .str)) :: ownS r _)
      rw [e, if_pos rfl]
      exact .head
    · show OUp _ _ _ _ ((b, OV.lst ((if b = a then ys else σ b).map .str)) :: ownS r _)
      rw [if_neg hb]
      rcases List.mem_cons.mp hm with q | q
      · exact absurd q.symm hb
      · exact .tail (ownS_up h2 q)
end Mine
end

section
open PySem PySem.W PyProof.Rows PySem.Calls
open PySem.Builtin PySem.Builtin.Str
set_option linter.unusedVariables false
set_option maxRecDepth 100000
namespace Mine
noncomputable def total (l : List (List Str)) : Nat := (l.map List.length).sum
theorem total_cons (q : List Str) (l : List (List Str)) : total (q :: l) = q.length + total l := by simp [total]
theorem upd_len (x : Str) (q : List Str) : (upd x q).length ≤ q.length := by unfold upd; split <;> simp
theorem total_upd_le (x : Str) : ∀ l, total (l.map (upd x)) ≤ total l
  | [] => Nat.le_refl _
  | q :: l => by rw [List.map_cons, total_cons, total_cons]; have := upd_len x q; have := total_upd_le x l; lia  
theorem total_upd_lt {x : Str} : ∀ {l : List (List Str)}, (∃ q ∈ l, q.head? = some x) → total (l.map (upd x)) < total l
  | q :: l, ⟨p, hp, hx⟩ => by
    rw [List.map_cons, total_cons, total_cons]
    rcases List.mem_cons.mp hp with e | e
    · subst e
      have h1 : (upd x p).length < p.length := by
        unfold upd; rw [if_pos hx]
        cases p with
        | nil => simp at hx
        | cons a r => simp
      have := total_upd_le x l; lia  
    · have := total_upd_lt ⟨p, e, hx⟩; have := upd_len x q; lia  
theorem pick_of_split {lv pre post : List (List Str)} {q : List Str} (e : lv = pre ++ q :: post) (h1 : ∀ p ∈ pre, okHead lv (p.head?.getD "") = false) (h2 : okHead lv (q.head?.getD "") = true) : pickS lv = some (q.head?.getD "") := by
  unfold pickS
  have : lv.find? (fun q => okHead lv (q.head?.getD "")) = some q := by
    rw [List.find?_eq_some_iff_append]
    exact ⟨h2, pre, post, e, fun p hp => by rw [h1 p hp]; rfl⟩
  rw [this]; rfl
theorem pick_none {lv : List (List Str)} (h : ∀ p ∈ lv, okHead lv (p.head?.getD "") = false) : pickS lv = none := by
  unfold pickS
  have : lv.find? (fun q => okHead lv (q.head?.getD "")) = none := List.find?_eq_none.mpr fun p hp => by rw [h p hp]; decide
  rw [this]; rfl
theorem pick_head {lv : List (List Str)} {x : Str} (hne : ∀ q ∈ lv, q ≠ []) (h : pickS lv = some x) : ∃ q ∈ lv, q.head? = some x := by
  unfold pickS at h
  cases hf : lv.find? (fun q => okHead lv (q.head?.getD "")) with
  | none => rw [hf] at h; cases h
  | some q =>
    rw [hf] at h
    have hq := List.mem_of_find?_eq_some hf
    refine ⟨q, hq, ?_⟩
    have := hne q hq
    cases q with
    | nil => exact absurd rfl this
    | cons a r => simpa using h
noncomputable def neB (σ : Addr → List Str) (a : Addr) : Bool := !(σ a).isEmpty
theorem live_map (σ : Addr → List Str) (as : List Addr) : (as.map σ).filter (fun q => !q.isEmpty) = (as.filter (neB σ)).map σ := by
  rw [List.filter_map]; rfl
theorem ne_of_neB {σ : Addr → List Str} {a : Addr} (h : neB σ a = true) : σ a ≠ [] := by
  intro q; unfold neB at h; rw [q] at h; cases h
noncomputable def sigD (σ : Addr → List Str) (x : Str) (ds : List Addr) (b : Addr) : List Str := if b ∈ ds then upd x (σ b) else σ b
theorem sigD_live (σ : Addr → List Str) (x : Str) (as : List Addr) : ∀ a ∈ as, sigD σ x (as.filter (neB σ)) a = upd x (σ a) := by
  intro a ha
  unfold sigD
  split
  · rfl
  · rename_i h
    have : neB σ a = false := by
      cases hb : neB σ a with
      | false => rfl
      | true => exact absurd (List.mem_filter.mpr ⟨ha, hb⟩) h
    have h2 : σ a = [] := by unfold neB at this; simpa using this
    rw [h2]; rfl
theorem refs_snoc {V : List Addr} {done : List LV} {y : LV} {rest : List LV} (e : V.map LV.at = done ++ y :: rest) : ∃ ds a, done = ds.map LV.at ∧ y = .at a ∧ ∃ r, V = ds ++ a :: r := by
  obtain ⟨l1, l2, h1, h2, h3⟩ := List.map_eq_append_iff.mp e
  obtain ⟨z, l3, h4, h5, h6⟩ := List.map_eq_cons_iff.mp h3
  exact ⟨l1, z, h2.symm, h5.symm, l3, by rw [h1, h4]⟩
theorem adr_map (V : List Addr) : (V.map LV.at).map adr = V := by rw [List.map_map]; exact List.map_id _
end Mine
end

section
open PySem PySem.W PyProof.Rows PySem.Calls
open PySem.Builtin PySem.Builtin.Str
set_option linter.unusedVariables false
set_option maxRecDepth 100000
namespace Mine
section
variable {prog : Program} {w : World} {fa : Str → Addr} {mg mb : Str → Option Value}
noncomputable abbrev c3X (prog : Program) (w : World) (fa : Str → Addr) (kV doc pm : Value) (an : Option Addr) (cd ct : Value) (L : Addr) (g : Heap) (X : AP) : Cx := cxOf prog w (fdOf "_c3_merge" 2 kV doc pm an cd ct) L (fa "_c3_merge") g X
/-- what holds at the head of the merge's outer loop, of its search and of the search's inner loop -/
inductive C3J (as : List Addr) (σ0 : Addr → List Str) (r : Addr) (n : Nat) (d : List (Str × LV)) : List (Addr × OV) → Prop
  | mk (as' : List Addr) (σ : Addr → List Str) (res : List Str) (f : Nat) (hd : Sub [(Str.ofString "sequences", .refs as'), (Str.ofString "result", .at r)] d) (hl : as'.length ≤ 1000) (hf : as'.filter (neB σ) = as.filter (neB σ)) (hs : ∀ a ∈ as', a ∈ as)
      (hsl : ∀ a ∈ as, (σ a).length ≤ 1000) (hrn : res.length + n ≤ 50000) (htn : total (as.map σ) = n) (hnf : n < f) (hc : c3F f (as.map σ) res = c3F (total (as.map σ0) + 1) (as.map σ0) []) : C3J as σ0 r n d ((r, .lst (res.map .str)) :: ownS as σ)
inductive C3S (σ : Addr → List Str) (V : List Addr) (D0 : List (Str × LV)) (O : List (Addr × OV)) (done : List LV) (d : List (Str × LV)) : List (Addr × OV) → Prop
  | mk (h1 : Sub D0 d) (h3 : ∀ a ∈ done.map adr, okHead (V.map σ) ((σ a).head?.getD "") = false) (h4 : done ≠ [] → d.lookup (Str.ofString "candidate") = some (.p .none)) : C3S σ V D0 O done d O
inductive C3B (σ : Addr → List Str) (V : List Addr) (D0 : List (Str × LV)) (O : List (Addr × OV)) (d : List (Str × LV)) : List (Addr × OV) → Prop
  | mk (x : Str) (hp : pickS (V.map σ) = some x) (h : Sub ((Str.ofString "candidate", .p (.str x)) :: D0) d) : C3B σ V D0 O d O
inductive C3T (σ : Addr → List Str) (x : Str) (D1 : List (Str × LV)) (O1 : List (Addr × OV)) (done2 : List LV) (d : List (Str × LV)) : List (Addr × OV) → Prop
  | mk (h1 : Sub D1 d) (h3 : ∀ b ∈ done2.map adr, (σ b).tail.contains x = false) : C3T σ x D1 O1 done2 d O1
inductive C3U (σ : Addr → List Str) (V : List Addr) (x : Str) (D2 : List (Str × LV)) (O1 : List (Addr × OV)) (d : List (Str × LV)) : List (Addr × OV) → Prop
  | mk (h1 : Sub D2 d) (h3 : okHead (V.map σ) x = false) : C3U σ V x D2 O1 d O1
set_option maxHeartbeats 4000000 in
theorem c3_body {kV doc pm : Value} {an : Option Addr} {cd ct : Value} {L : Addr} {g : Heap} {X : AP} {A : Around} {s : Shared} {Q : Flow → Shared → Prop} {E : Value → Shared → Prop} {as : List Addr} {σ0 : Addr → List Str}
    (hA1 : Room 1 A) (hh : A.handled = none) (T : Tp fa mg mb g) (hnd : as.Nodup) (hal : as.length ≤ 1000) (hsl : ∀ a ∈ as, (σ0 a).length ≤ 1000) (htot : total (as.map σ0) ≤ 50000)
    (hret : ∀ v h tk (d : List (Str × LV)) (r : Addr) (res : List Str) (σ : Addr → List Str), c3F (total (as.map σ0) + 1) (as.map σ0) [] = some res → Cfg (c3X prog w fa kV doc pm an cd ct L g X) d ((r, .lst (res.map .str)) :: ownS as σ) [(v, .at r)] h → Q (.ret v) (St s h tk))
    (hrse : c3F (total (as.map σ0) + 1) (as.map σ0) [] = none → ∀ (d : List (Str × LV)) (r : Addr) (res : List Str) (σ : Addr → List Str) h h' tk e args, Cfg (c3X prog w fa kV doc pm an cd ct L g X) d ((r, .lst (res.map .str)) :: ownS as σ) [] h → Heap.MadeExc h h' e "RuntimeError" args →
      notedBy (model prog w) A (c3X prog w fa kV doc pm an cd ct L g X).env (fun e s' => cameBackBy (model prog w) A (c3X prog w fa kV doc pm an cd ct L g X).env E e s') (.ref e) (St s h' tk)) :
    Exs (c3X prog w fa kV doc pm an cd ct L g X) A s [(Str.ofString "sequences", .refs as)] (ownS as σ0) [] (bAt 2) Q E := by
  refine Exs.asg (Ev.lstN (ps := []) .nil (line_of (by simp))) fun lv o' hlv => ?_
  obtain ⟨r, rfl, rfl⟩ := hlv
  refine Exs.whlE (C3J as σ0 r) (fun _ _ => False) (total (as.map σ0))
    (.mk as σ0 [] _ (.take rfl <| .take rfl .nil) hal rfl (fun a h => h) hsl (by simpa using htot) rfl (Nat.lt_succ_self _) rfl) ?_ (fun _ _ f => f.elim)
  rintro n d o ⟨as', σ, res, f, hd, hal', hfil, hsub, hsl', hrn, htn, hf, hc3⟩
  refine ⟨true, TsP.val hA1 .cbool .pd tr_bool, fun _ => ?_, fun h => nomatch h⟩
  refine Exs.sub hd ?_
  obtain ⟨f, rfl⟩ : ∃ f', f = f' + 1 := ⟨f - 1, by lia  ⟩
  -- the sequences that are not empty
  refine Exs.setCompRefs (p := neB σ) (d₀ := []) (up := fun y d => (Str.ofString "s", y) :: d) hh (.of rfl .nil) .loc (fun ob h => .inl h) (fun L' g X a ha => CTgt.loc) (fun X m cm ts' h L' C a o' ha => ?_) (fun L' g X a o' ha => EvP.loc) (fun y n lv h => nomatch h) hal' ?_
  · obtain ⟨vs, n, e1, e2⟩ := (C.owns (a, .lst ((σ a).map .str)) (List.mem_cons_of_mem _ (ownS_mem (hsub a ha)))).1
    have hl : vs.length = (σ a).length := by rw [e2.length, List.length_map]
    refine TsP.cast (TsP.gat .loc e1 (by have := hsl' a (hsub a ha); lia  )) ?_
    unfold neB
    cases vs with
    | nil => have : σ a = [] := List.length_eq_zero_iff.mp hl.symm
             rw [this]; rfl
    | cons v r => cases hσ : σ a with
      | nil => rw [hσ] at hl; simp at hl
      | cons x q => rfl
  rw [hfil]
  generalize hV : as.filter (neB σ) = V at *
  have hVas : ∀ a ∈ V, a ∈ as := fun a h => by rw [← hV] at h; exact (List.mem_filter.mp h).1
  have hVne : ∀ a ∈ V, σ a ≠ [] := fun a h => by rw [← hV] at h; exact ne_of_neB (List.mem_filter.mp h).2
  have hVl : V.length ≤ 1000 := by rw [← hV]; exact Nat.le_trans (List.length_filter_le _ _) hal
  have hVnd : V.Nodup := by rw [← hV]; exact hnd.filter _
  have hlive : (as.map σ).filter (fun q => !q.isEmpty) = V.map σ := by rw [live_map, hV]
  have hstep : c3F (f + 1) (as.map σ) res = if (V.map σ).isEmpty then some res else match pickS (V.map σ) with | none => none | some x => c3F f ((as.map σ).map (upd x)) (res ++ [x]) := by
    show (if ((as.map σ).filter fun q => !q.isEmpty).isEmpty then _ else _) = _
    rw [hlive] <;> rfl
  rw [hstep] at hc3
  refine Exs.ite (TsP.not (TsP.refs .loc hVl)) (fun h0 => ?_) (fun h0 => ?_)
  · have hV0 : V = [] := by cases V with | nil => rfl | cons _ _ => simp at h0
    rw [hV0] at hc3
    refine Exs.retP .loc fun v h tk C => ?_
    exact hret v h tk _ r res σ hc3.symm C
  refine Exs.nilS ?_
  have hV0 : V ≠ [] := by intro q; rw [q] at h0; simp at h0
  have hc3' : (match pickS (V.map σ) with | none => none | some x => c3F f ((as.map σ).map (upd x)) (res ++ [x])) = c3F (total (as.map σ0) + 1) (as.map σ0) [] := by
    have : (V.map σ).isEmpty = false := by cases V with | nil => exact absurd rfl hV0 | cons _ _ => rfl
    rw [this] at hc3; exact hc3
  refine Exs.sub (d' := [(Str.ofString "sequences", .refs V), (Str.ofString "result", .at r)]) (.take rfl <| .take rfl .nil) ?_
  let D0 : List (Str × LV) := [(Str.ofString "sequences", .refs V), (Str.ofString "result", .at r)]
  let O : List (Addr × OV) := (r, .lst (res.map .str)) :: ownS as σ
  have hlvl : ∀ p ∈ V.map σ, p.length ≤ 1000 := fun p hp => by
    obtain ⟨a, ha, rfl⟩ := List.mem_map.mp hp
    exact hsl' a (hVas a ha)
  refine Exs.forL (up := fun y d => (Str.ofString "s1", y) :: d) (C3S σ V D0 O) (C3B σ V D0 O) .loc (IterTo.refs hh) (fun y d' hy => Tgt.loc) ⟨.refl, (fun a h => nomatch h), fun h => absurd rfl h⟩ (fun done y rest' d' o' I ob ts' e j => ?_) (fun d' o' j => ?_) (fun d' o' j => ?_)
  · -- one sequence after the other
    obtain ⟨j1, j3, j4⟩ := j
    obtain ⟨ds, a, rfl, rfl, rr, e2⟩ := refs_snoc e
    rw [adr_map] at j3
    have haV : a ∈ V := by rw [e2]; simp
    have hane := hVne a haV
    have hl1 := hsl' a (hVas a haV)
    have ix : Op2 A getItem (SL (σ a)) (.int 0) (.str ((σ a).head?.getD "")) := op_idx (by decide) (by
      cases hσ : σ a with
      | nil => exact absurd hσ hane
      | cons x q => simp) (line_of (by simpa using hl1))
    refine Exs.sub j1.both ?_
    refine Exs.set (EvP.sub hA1 .loc .cint (.own (xs := (σ a).map .str) (List.mem_cons_of_mem _ (List.mem_cons_of_mem _ (ownS_mem (hVas a haV))))) .pd HasGet.list ix) ?_
    generalize hx : (σ a).head?.getD "" = x at *
    refine Exs.sub (d' := (Str.ofString "candidate", .p (.str x)) :: D0) (.take rfl <| .take rfl <| .take rfl .nil) ?_
    refine Exs.forL (up := fun y d => (Str.ofString "s2", y) :: d) (C3T σ x ((Str.ofString "candidate", .p (.str x)) :: D0) ((I, .raw ob) :: O))
      (C3U σ V x ((Str.ofString "candidate", .p .none) :: D0) ((I, .raw ob) :: O)) .loc (IterTo.refs hh) (fun y d' hy => Tgt.loc) ⟨.refl, fun a h => nomatch h⟩ (fun done2 y2 rest2 d2 o2 I2 ob2 ts2 e3 k => ?_) (fun d2 o2 k => ?_) (fun d2 o2 k => ?_)
    · obtain ⟨k1, k3⟩ := k
      obtain ⟨ds2, b, rfl, rfl, rr2, e4⟩ := refs_snoc e3
      rw [adr_map] at k3
      have hbV : b ∈ V := by rw [e4]; simp
      have hl2 := hsl' b (hVas b hbV)
      refine Exs.sub k1.both ?_
      refine Exs.ite (TsP.cmp hA1 .loc (EvP.slice hA1 .loc (.some .cint) .none .none (.own (xs := (σ b).map .str) (List.mem_cons_of_mem _ (List.mem_cons_of_mem _ (List.mem_cons_of_mem _ (ownS_mem (hVas b hbV)))))) HasGet.list (EvP.drop1 (by lia  ))) .pd .pd op_in_strs) (fun c0 => ?_) (fun c0 => ?_)
      · refine Exs.set .cnone (Exs.brkS fun h tk C => LoopQ.brk (o := (I, .raw ob) :: O) C ⟨.take rfl <| .take rfl <| .take rfl .nil, ?_⟩)
        unfold okHead
        rw [List.all_eq_false]
        exact ⟨σ b, List.mem_map_of_mem hbV, by rw [c0]; decide⟩
      · refine Exs.nilS (Exs.nil fun h tk C => LoopQ.next (o := (I, .raw ob) :: O) C ⟨.take rfl <| .take rfl <| .take rfl .nil, ?_⟩)
        intro b' hb'
        rw [List.map_append, adr_map] at hb'
        rcases List.mem_append.mp hb' with q | q
        · exact k3 b' q
        · have : b' = b := by simpa [adr] using q
          subst this; exact c0
    · obtain ⟨k1, k3⟩ := k
      rw [adr_map] at k3
      refine Exs.brkS fun h tk C => LoopQ.brk (o := O) C ⟨x, ?_, k1⟩
      have hok : okHead (V.map σ) x = true := by
        unfold okHead
        rw [List.all_eq_true]
        intro q hq
        obtain ⟨b, hb, rfl⟩ := List.mem_map.mp hq
        rw [k3 b hb]; rfl
      have := pick_of_split (lv := V.map σ) (pre := ds.map σ) (q := σ a) (post := rr.map σ) (by rw [e2]; simp) (fun p hp => by
        obtain ⟨b, hb, rfl⟩ := List.mem_map.mp hp
        exact j3 b hb) (by rw [hx]; exact hok)
      rw [hx] at this; exact this
    · obtain ⟨k1, k3⟩ := k
      refine Exs.nil fun h tk C => LoopQ.next (o := O) C ⟨?_, ?_, fun _ => k1 _ _ rfl⟩
      · exact fun n lv hn => k1 n lv (Sub.more (x := Str.ofString "candidate") (d0 := D0) .refl rfl n lv hn)
      · intro b' hb'
        rw [List.map_append, adr_map] at hb'
        rcases List.mem_append.mp hb' with q | q
        · exact j3 b' q
        · have : b' = a := by simpa [adr] using q
          subst this; rw [hx]; exact k3
  · -- none is found
    obtain ⟨j1, j3, j4⟩ := j
    rw [adr_map] at j3
    have hnone : pickS (V.map σ) = none := pick_none fun p hp => by
      obtain ⟨b, hb, rfl⟩ := List.mem_map.mp hp
      exact j3 b hb
    have hcand := j4 (by intro q; exact hV0 (by simpa using q))
    rw [hnone] at hc3'
    refine Exs.nilS ?_
    refine Exs.ite (TsP.cmp hA1 (EvP.loc hcand) .cnone .pd .pd op_is_none_none) (fun _ => ?_) (fun h => nomatch h)
    exact Exs.rse T hh fun h h' tk e args C hm => hrse hc3'.symm _ r res σ _ _ _ _ _ C hm
  · -- one is found
    obtain ⟨x, hpick, j1⟩ := j
    rw [hpick] at hc3'
    refine Exs.sub j1 ?_
    refine Exs.ite (TsP.cmp hA1 .loc .cnone .pd .pd op_is_none_str) (fun h => nomatch h) (fun _ => Exs.nilS ?_)
    refine Exs.app (xs := res.map .str) .loc .loc .head (Nat.le_trans (by rw [List.length_map]; lia  ) (line2 (Nat.le_refl 100000))) ?_
    have hpk := pick_head (fun q hq => by
      obtain ⟨b, hb, rfl⟩ := List.mem_map.mp hq
      exact hVne b hb) hpick
    have e0 : ([LV.p (.str x)] : List LV).map txt = [x] := rfl
    have eO : (r, OV.lst (res.map PyData.str ++ [PyData.str x])) :: ownS as σ = (r, OV.lst ((res ++ [x]).map PyData.str)) :: ownS as (sigD σ x []) := by
      rw [List.map_append]
      have : ownS as (sigD σ x []) = ownS as σ := List.map_congr_left fun b _ => by unfold sigD; simp
      rw [this]; rfl
    rw [eO]
    refine Exs.forF (x := Str.ofString "seq") (fun _ => [(Str.ofString "sequences", .refs V), (Str.ofString "result", .at r), (Str.ofString "candidate", .p (.str x))]) (fun done => (r, .lst ((res ++ [x]).map .str)) :: ownS as (sigD σ x (done.map adr))) (fun _ _ => False) .loc (IterTo.refs hh) (.take rfl <| .take rfl <| .take rfl .nil) rfl (fun done y rest' I ob ts' e => ?_) ?_ (fun _ _ f => f.elim)
    · obtain ⟨ds, a, rfl, rfl, rr, e2⟩ := refs_snoc e
      rw [adr_map]
      have haV : a ∈ V := by rw [e2]; simp
      have hads : a ∉ ds := by
        rw [e2] at hVnd
        intro q
        exact (List.nodup_append.mp hVnd).2.2 a q a (by simp) rfl
      have hane := hVne a haV
      have hl1 := hsl' a (hVas a haV)
      have esa : sigD σ x ds a = σ a := by unfold sigD; rw [if_neg hads]
      have ix : Op2 A getItem (SL (σ a)) (.int 0) (.str ((σ a).head?.getD "")) := op_idx (by decide) (by
        cases hσ : σ a with
        | nil => exact absurd hσ hane
        | cons x q => simp) (line_of (by simpa using hl1))
      have hmem : (a, OV.lst ((σ a).map PyData.str)) ∈ ownS as (sigD σ x ds) := by
        have := ownS_mem (σ := sigD σ x ds) (hVas a haV)
        rwa [esa] at this
      have hhd : ((σ a).head?.getD "" == x) = decide ((σ a).head? = some x) := by
        cases hσ : σ a with
        | nil => exact absurd hσ hane
        | cons y q => simp only [List.head?_cons, Option.getD_some, Option.some.injEq]; by_cases hyx : y = x <;> simp [hyx]
      have eend : ∀ σ1 : Addr → List Str, (∀ b, σ1 b = sigD σ x (ds ++ [a]) b) → ownS as σ1 = ownS as (sigD σ x ((ds.map LV.at ++ [LV.at a]).map adr)) := fun σ1 h1 => List.map_congr_left fun b _ => by
        rw [List.map_append, adr_map, h1 b]; rfl
      refine Exs.ite (TsP.cmp hA1 (EvP.sub hA1 .loc .cint (.own (xs := (σ a).map .str) (List.mem_cons_of_mem _ (List.mem_cons_of_mem _ hmem))) .pd HasGet.list ix) .loc .pd .pd op_eq_str) (fun c0 => ?_) (fun c0 => ?_)
      · rw [hhd] at c0
        have hx : (σ a).head? = some x := of_decide_eq_true c0
        have up := ownS_up (σ := sigD σ x ds) (ys := (σ a).tail) hnd (hVas a haV)
        rw [esa] at up
        refine Exs.del0 (xs := (σ a).map .str) (o' := (I, .raw ob) :: (r, .lst ((res ++ [x]).map .str)) :: ownS as (fun b => if b = a then (σ a).tail else sigD σ x ds b)) .loc .cint (by simpa using hane) (by rw [List.length_map]; lia  ) (by rw [← List.map_tail]; exact .tail (.tail up)) (Exs.nilS ?_)
        refine LoopQ.nextF (o := (r, .lst ((res ++ [x]).map .str)) :: ownS as (fun b => if b = a then (σ a).tail else sigD σ x ds b)) ?_ ?_
        · exact .take rfl <| .take rfl <| .take rfl .nil
        · rw [eend _ fun b => ?_]
          unfold sigD
          by_cases hb : b = a
          · subst hb
            rw [if_pos rfl, if_pos (by simp)]
            unfold upd; rw [if_pos hx]
          · rw [if_neg hb]
            by_cases hd : b ∈ ds
            · rw [if_pos hd, if_pos (by simp [hd])]
            · rw [if_neg hd, if_neg (by simp [hd, hb])]
      · rw [hhd] at c0
        have hx : ¬ (σ a).head? = some x := of_decide_eq_false c0
        refine Exs.nilS ?_
        refine LoopQ.nextF (o := (r, .lst ((res ++ [x]).map .str)) :: ownS as (sigD σ x ds)) ?_ ?_
        · exact .take rfl <| .take rfl <| .take rfl .nil
        · rw [eend _ fun b => ?_]
          unfold sigD
          by_cases hb : b = a
          · subst hb
            rw [if_neg hads, if_pos (by simp)]
            unfold upd; rw [if_neg hx]
          · by_cases hd : b ∈ ds
            · rw [if_pos hd, if_pos (by simp [hd])]
            · rw [if_neg hd, if_neg (by simp [hd, hb])]
    · rw [adr_map]
      have hup : ∀ a ∈ as, sigD σ x V a = upd x (σ a) := by rw [← hV]; exact sigD_live σ x as
      have hmap : as.map (sigD σ x V) = (as.map σ).map (upd x) := by rw [List.map_map]; exact List.map_congr_left hup
      have htl : total ((as.map σ).map (upd x)) < total (as.map σ) := by
        obtain ⟨q, hq, hqx⟩ := hpk
        refine total_upd_lt ⟨q, ?_, hqx⟩
        obtain ⟨b, hb, rfl⟩ := List.mem_map.mp hq
        exact List.mem_map_of_mem (hVas b hb)
      refine Exs.nil fun h tk C => WQ.next C ⟨total (as.map (sigD σ x V)), by rw [hmap]; lia  , .mk V (sigD σ x V) (res ++ [x]) f (.take rfl <| .take rfl .nil) hVl ?_ hVas (fun a ha => ?_) ?_ rfl ?_ ?_⟩
      · rw [← hV, List.filter_filter]
        apply List.filter_congr
        intro a ha
        have h1 := sigD_live σ x as a ha
        rw [hV] at h1 ⊢
        cases hb : neB σ a with
        | true => simp
        | false =>
          have h2 : σ a = [] := by unfold neB at hb; simpa using hb
          have : neB (sigD σ x V) a = false := by unfold neB; rw [h1, h2]; rfl
          rw [this]; rfl
      · rw [hup a ha]; exact Nat.le_trans (upd_len _ _) (hsl' a ha)
      · rw [List.length_append, List.length_singleton, hmap]; lia  
      · rw [hmap]; lia  
      · rw [hmap]; exact hc3'
end
end Mine
end

section
open PySem PySem.W PyProof.Rows PySem.Calls
open PySem.Builtin PySem.Builtin.Str
set_option linter.unusedVariables false
set_option maxRecDepth 100000
namespace Mine
section
variable {M : Model} {A : Around} {E : Value → Shared → Prop} {s : Shared}
theorem note_first {base h1 h2 : Heap} {env : Env} {outer : List Env} {L e : Addr} {cls : String} {args : List Value} {Q : Unit → Shared → Prop} {tk : Nat}
    (hfr : A.frames = some (env :: outer)) (hf : env.frame = some L) (hkb : base.StaysIn h1) (hl : h1.FunFrames base (env :: outer)) (hx : Heap.MadeExc h1 h2 e cls args)
    (hQ : ∀ h' t, Heap.HeldW base (env :: outer) e (.type cls) (.ref t) L h' → h2.UpToSlots h' → Q () (St s h' tk)) : wpAny M A (noteFrame (.ref e) env) Q E (St s h2 tk) := by
  obtain ⟨t, he, htn, ht⟩ := hx.there
  have fresh : ∀ b, h1.get? b = none → base.get? b = none := fun b hb => by
    cases hq : base.get? b with
    | none => rfl
    | some o' => have := hkb b o' hq; rw [hb] at this; cases this
  unfold noteFrame
  simp only [hf]
  refine wpAny_bind (wpAny_field (s := St s h2 tk) he rfl rfl ?_)
  rw [if_neg (by simp)]
  refine wpAny_entryW (s := St s h2 tk) (a0 := .ref t) hfr (hl.of_keeps fun b o hb _ => ⟨o, hx.keeps b o hb, rfl⟩) hf he (fun b o hb => hx.keeps b o (hkb b o hb)) (fresh e hx.new) rfl (by simp) rfl fun h' hN => ?_
  obtain ⟨k1, k2, k3, k4⟩ := hN
  exact hQ h' t ⟨k1, fresh e hx.new, k2, k3⟩ k4
theorem setFlight_held {base : Heap} {l : List Env} {e L : Addr} {cls a0 : Value} {Q : Unit → Shared → Prop} (R : Heap.HeldW base l e cls a0 L s.heap)
    (h : ∀ h', Heap.HeldW base l e cls a0 L h' → s.heap.UpToSlots h' → Q () { s with heap := h' }) : wpAny M A (setFlight (.ref e) (some L)) Q E s := by
  obtain ⟨hkb, hen, hl, oe, vs, T, oT, ts, he, hcls, hd, h1, hnT, hTe, hT, hdT, h3⟩ := R
  have hsz3 : 3 < ts.size := (Array.getElem?_eq_some_iff.mp h3).1
  have other : ∀ b, b ≠ T → (s.heap.update T (Obj.mapFields (·.setIfInBounds 3 ((some L).elim Value.none fun f => rawInt f)))).get? b = s.heap.get? b :=
    fun b hb => Heap.get?_update_other _ _ (Ne.symm hb)
  have noRecord : ∀ b o, s.heap.get? b = some o → (∀ vs, o.data ≠ .fields vs) → b ≠ T := fun b o hb hnf q => by
    rw [q, hT] at hb; injection hb with hb; subst hb; exact hnf ts hdT
  unfold setFlight
  refine wpAny_bind (wpAny_field he hd h1 ?_)
  rw [if_pos (show (Value.ref T != Value.none) = true from by simp)]
  refine wpAny_setField hT hdT hsz3 (h _ ⟨fun b o hbo => (other b fun q => by rw [q, hnT] at hbo; cases hbo).trans (hkb b o hbo), hen,
    hl.of_keeps fun b o hb hnf => ⟨o, (other b (noRecord b o hb hnf)).trans hb, rfl⟩, ?_⟩ fun b o hb hnf => ⟨o.slots, (other b (noRecord b o hb hnf)).trans hb⟩)
  exact ⟨oe, vs, T, _, _, (other e (Ne.symm hTe)).trans he, hcls, hd, h1, hnT, hTe, Heap.get?_update_self _ hT (Obj.isFreed_of_fields (Obj.data_mapFields hdT _)), Obj.data_mapFields hdT _, by simp [hsz3]⟩
/-- a raise within a loop of a def: what reaches the caller -/
theorem raise_chain {base h1 h2 : Heap} {env : Env} {outer : List Env} {L e : Addr} {cls : String} {args : List Value} {Rx Ex : Value → Shared → Prop} {tk : Nat}
    (hfr : A.frames = some (env :: outer)) (hf : env.frame = some L) (hkb : base.StaysIn h1) (hl : h1.FunFrames base (env :: outer)) (hx : Heap.MadeExc h1 h2 e cls args)
    (k : ∀ h' t, Heap.FlyingW base outer e (.type cls) (.ref t) h' → h1.UpToSlots h' → Rx (.ref e) (St s h' tk)) :
    notedBy M A env (fun e s' => cameBackBy M A env (fun e s' => wpAny M A (leaving env e) (fun _ s'' => Rx e s'') (fun e' s'' => Ex e' s'') s') e s') (.ref e) (St s h2 tk) := by
  refine note_first hfr hf hkb hl hx fun h3 t hh3 hs3 => ?_
  unfold cameBackBy
  have hh3' := hh3
  obtain ⟨_, _, _, oe, vs, T, oT, ts, he, hcls, hd, hf1, _⟩ := hh3'
  refine wpAny_bind (wpAny_field (s := St s h3 tk) he hd hf1 ?_)
  rw [if_neg (by simp)]
  rw [hf]
  refine setFlight_held (s := St s h3 tk) hh3 fun h4 hh4 hs4 => ?_
  unfold leaving
  refine wpAny_bind (wpAny_noteFrame_againW hf hh4.2.2.2 ?_)
  refine wpAny_landsW (s := St s h4 tk) hh4 fun h5 hfl hs5 => ?_
  obtain ⟨k1, k2, ⟨_, _, k3⟩, k4⟩ := hfl
  exact k h5 t ⟨k1, k2, k3, k4⟩ (((Heap.UpToSlots.of_keeps hx.keeps).trans hs3).trans (hs4.trans hs5))

theorem funFrames_of {h base : Heap} : ∀ {l : List Env}, (∀ env ∈ l, env.scope.kind ≠ .module ∧ ∃ L o, env.frame = some L ∧ base.get? L = none ∧ h.get? L = some o ∧ ∀ vs, o.data ≠ .fields vs) → h.FunFrames base l
  | [], _ => trivial
  | env :: r, k => ⟨(k env List.mem_cons_self).1, (k env List.mem_cons_self).2, funFrames_of fun e he => k e (List.mem_cons_of_mem _ he)⟩
/-- the frame of a def, based on less of the heap, owning more -/
theorem CfgI.rebase {c : Cx} {Y : AP} {m cm : Str → Option Value} {d : List (Str × LV)} {ts : List (Value × LV)} {h1 g' : Heap} {X' : AP} {os : List (Addr × OV)} (C : CfgI c Y m cm d [] ts h1) (hg : ∀ b ob, g'.get? b = some ob → c.g.get? b = some ob) (hX : ∀ b, X' b → c.X b)
    (hown : ∀ n a, c.env.cells.lookup n = some a → c.own n = true) (hn : (os.map (·.1)).Nodup) (ho : ∀ q ∈ os, OVden h1 Y q.1 q.2 ∧ c.X q.1 ∧ ¬ X' q.1 ∧ g'.get? q.1 = none ∧ ∃ ob, c.g.get? q.1 = some ob) :
    CfgI ⟨c.prog, c.w, c.env, g', X', c.own⟩ Y m cm d os ts h1 where
  ns := C.ns
  cell := C.cell
  stays := fun a ob e => C.stays a ob (hg a ob e)
  dom := C.dom
  sub := fun a e => C.sub a (hX a e)
  gL := by
    cases e : g'.get? c.env.locals with
    | none => rfl
    | some ob => have := hg _ _ e; rw [C.gL] at this; cases this
  XL := C.XL
  XC := C.XC
  gC := fun n a e1 e2 => by
    cases e : g'.get? a with
    | none => rfl
    | some ob => have := hg _ _ e; rw [C.gC n a e1 e2] at this; cases this
  CC := C.CC
  vars := C.vars
  tmps := C.tmps
  owns := fun q hq => by
    obtain ⟨h1, h2, h3, h4, ob, h5⟩ := ho q hq
    refine ⟨h1, C.sub _ h2, h3, h4, fun e => ?_, fun n a e1 e2 => ?_⟩
    · have := C.gL; rw [← e, h5] at this; cases this
    · have := C.gC n a e1 (hown n a e1); rw [e2, h5] at this; cases this
  nodup := hn
end
end Mine
end

section
open PySem PySem.W PyProof.Rows PySem.Calls
open PySem.Builtin PySem.Builtin.Str
set_option linter.unusedVariables false
set_option maxRecDepth 100000
namespace Mine
section
variable {prog : Program} {w : World} {fa : Str → Addr} {mg mb : Str → Option Value}
noncomputable def c3V (seqs : List (List Str)) : Option (List Str) := c3F (total seqs + 1) seqs []
set_option maxHeartbeats 2000000 in
theorem c3_call {A : Around} {s : Shared} {h g0 : Heap} {tk : Nat} {X : AP} {u : Value} {Q : Value → Shared → Prop} {E : Value → Shared → Prop} {as : List Addr} {σ0 : Addr → List Str}
    (hA : Room 2 A) (hh : A.handled = none) (T : Tp fa mg mb g0) (hg0 : Gr g0 h) (hga : ∀ a ∈ as, g0.get? a = none) (hX : XD X h) (hu : LVden h X (.refs as) u) (hnd : as.Nodup) (hal : as.length ≤ 1000)
    (hsl : ∀ a ∈ as, (σ0 a).length ≤ 1000) (htot : total (as.map σ0) ≤ 50000) (hown : ∀ a ∈ as, X a ∧ OVden h X a (.lst ((σ0 a).map .str)))
    (ok : ∀ res v h' tk', c3V (as.map σ0) = some res → (∀ b ob, b ∉ as → h.get? b = some ob → h'.get? b = some ob) → LVden h' (fun b => X b ∧ b ∉ as) (.p (SL res)) v → Q v (St s h' tk'))
    (bad : c3V (as.map σ0) = none → ∃ outer, A.frames = some outer ∧ (∀ env ∈ outer, env.scope.kind ≠ .module ∧ ∃ L o, env.frame = some L ∧ L ∉ as ∧ h.get? L = some o ∧ ∀ vs, o.data ≠ .fields vs) ∧
      ∀ e h' tk' base t, Heap.FlyingW base outer e (.type "RuntimeError") (.ref t) h' → (∀ b ob, b ∉ as → b ∉ outer.filterMap (·.frame) → h.get? b = some ob → base.get? b = some ob) → (hideAll h as).UpToSlots h' → E (.ref e) (St s h' tk')) :
    wpAny (model prog w) A (call (.ref (fa "_c3_merge")) [u]) Q E (St s h tk) := by
  have Th := T.gr hg0
  obtain ⟨hmg, oc, od, osl, kV, doc, pm, an, cd, ct, ho, hcd, _⟩ := Th.fn ("_c3_merge", 2) (by first | with_reducible exact mFa | with_reducible exact mFb | with_reducible exact mFc | with_reducible exact mFd | with_reducible exact mFe | with_reducible exact mFf | with_reducible exact mFg | with_reducible exact mFh | with_reducible exact mFi | with_reducible exact mFj | with_reducible exact mFk)
  have hgg : Gr g0 (hideAll h as) := fun b ob e => hideAll_get as (hg0 _ _ e) fun q => by rw [hga b q] at e; cases e
  refine wpAny_call (codeAny_call_cells (s := St s h tk) (fd := fdOf "_c3_merge" 2 kV doc pm an cd ct) (body := bAt 2) (binds := [("sequences", u)]) (by have := hA.dp; lia  ) ho rfl Th.lim hcd rfl (by rfl) rfl
    (fun y hy => by rw [List.mem_singleton.mp hy]; exact .inl rfl) (fun s₁ I => ?_))
  obtain ⟨h₁, tk₁, hs⟩ := I.toInCall.same
  have C : Cfg (cxOf prog w (fdOf "_c3_merge" 2 kV doc pm an cd ct) h.objs.size (fa "_c3_merge") h X) [(Str.ofString "sequences", .refs as)] [] [] s₁.heap := by
    refine cfg_enter hX rfl I fun y lv e => ?_
    rw [List.lookup_cons] at e
    cases hb : y == (Str.ofString "sequences") with
    | false => rw [hb] at e; cases e
    | true =>
      rw [hb] at e; cases e
      have hy := beq_iff_eq.mp hb
      subst hy
      exact ⟨u, rfl, hu⟩
  obtain ⟨Y, m, cm, C⟩ := C
  have C1 := C.rebase (g' := hideAll h as) (X' := fun b => X b ∧ b ∉ as) (os := ownS as σ0) (fun b ob e => of_hideAll as e) (fun b e => e.1) (fun n a e => by
      have e : (callEnvC (fdOf "_c3_merge" 2 kV doc pm an cd ct) h.objs.size (fa "_c3_merge")).cells.lookup n = some a := e
      show ((callEnvC (fdOf "_c3_merge" 2 kV doc pm an cd ct) h.objs.size (fa "_c3_merge")).cells.lookup n).isSome = true
      rw [e]; rfl)
    (by rw [show (ownS as σ0).map (·.1) = as by unfold ownS; rw [List.map_map]; exact List.map_id _]; exact hnd)
    (fun q hq => by
      obtain ⟨a, ha, rfl⟩ := List.mem_map.mp hq
      obtain ⟨h1, vs, n, h2, h3⟩ := hown a ha
      exact ⟨⟨vs, n, I.toInCall.keep _ _ h2, den_strs_any h3⟩, h1, fun q => q.2 ha, hideAll_none as ha, _, h2⟩)
  have hs' : s₁ = St s s₁.heap s₁.toks := by rw [hs]
  rw [hs']
  have hA1 : Room 1 (A.deeper (callEnvC (fdOf "_c3_merge" 2 kV doc pm an cd ct) h.objs.size (fa "_c3_merge"))) := hA.deeper _
  refine c3_body (as := as) (σ0 := σ0) (X := fun b => X b ∧ b ∉ as) (g := hideAll h as) (L := h.objs.size) hA1 hh (T.gr hgg) hnd hal hsl htot (fun v h' tk' d r res σ hc C' => ?_) (fun hc d r res σ h1 h2 tk' e args C' hm => ?_) s₁.heap s₁.toks ⟨Y, m, cm, C1⟩
  · obtain ⟨v2, r2, h2, tk2, e1, e2, e3, e4, e5⟩ := RetQ.own (s := s) (tk := tk') (R := (· = .p (SL res))) C' rfl
    cases e1
    subst e3
    have e6 : h' = h2 := congrArg Shared.heap e2
    subst e6
    exact ok res v h' tk' hc (fun b ob hb e => e4 b ob (hideAll_get as e hb)) e5
  · obtain ⟨outer, hfr, hout, kk⟩ := bad hc
    obtain ⟨X2, m2, cm2, C2⟩ := C'
    have hL : h.get? h.objs.size = none := newNone rfl
    have hst : ∀ b ob, b ∉ as → h.get? b = some ob → h1.get? b = some ob := fun b ob hb e => C2.stays b ob (hideAll_get as e hb)
    refine raise_chain (L := h.objs.size) (outer := outer) (base := hideAll h1 ((callEnvC (fdOf "_c3_merge" 2 kV doc pm an cd ct) h.objs.size (fa "_c3_merge") :: outer).filterMap (·.frame))) (Around.frames_deeper hfr) rfl (fun b ob e => of_hideAll _ e) (funFrames_of fun env he => ?_) hm fun h' t hfl hup => ?_
    · rcases List.mem_cons.mp he with rfl | he
      · obtain ⟨ob, es, ep, e1, e2, _⟩ := C2.ns
        exact ⟨by show (sAt 2).kind ≠ .module; decide, h.objs.size, ob, rfl, hideAll_none _ (List.mem_filterMap.mpr ⟨_, List.mem_cons_self, rfl⟩), e1, fun vs q => by rw [e2] at q; cases q⟩
      · obtain ⟨k1, L', o, k2, k3, k4, k5⟩ := hout env he
        exact ⟨k1, L', o, k2, hideAll_none _ (List.mem_filterMap.mpr ⟨env, List.mem_cons_of_mem _ he, k2⟩), hst _ _ k3 k4, k5⟩
    · refine kk e h' tk' _ t hfl (fun b ob hb hbo e => hideAll_get _ (hst b ob hb e) fun q => ?_) ((Heap.UpToSlots.of_keeps C2.stays).trans hup)
      obtain ⟨env, he, hf⟩ := List.mem_filterMap.mp q
      rcases List.mem_cons.mp he with rfl | he
      · have : h.objs.size = b := Option.some.inj hf
        rw [← this, hL] at e; cases e
      · exact hbo (List.mem_filterMap.mpr ⟨env, he, hf⟩)
end
end Mine
end

section
open PySem PySem.W PyProof.Rows PySem.Calls
open PySem.Builtin PySem.Builtin.Str
set_option linter.unusedVariables false
set_option maxRecDepth 100000
namespace Mine
noncomputable def sig : List Addr → List (List Str) → Addr → List Str
  | a :: as, r :: rs, b => if b = a then r else sig as rs b
  | _, _, _ => []
theorem sig_map : ∀ {as : List Addr} {rs : List (List Str)}, as.length = rs.length → as.Nodup → as.map (sig as rs) = rs ∧ ownS as (sig as rs) = ownsL as rs
  | [], [], _, _ => ⟨rfl, rfl⟩
  | a :: as, r :: rs, hl, hn => by
    obtain ⟨h1, h2⟩ := List.nodup_cons.mp hn
    obtain ⟨i1, i2⟩ := sig_map (as := as) (rs := rs) (by simpa using hl) h2
    have e : ∀ b ∈ as, sig (a :: as) (r :: rs) b = sig as rs b := fun b hb => by
      show (if b = a then r else sig as rs b) = _
      rw [if_neg (fun q => h1 (by rw [← q]; exact hb))]
    have e0 : sig (a :: as) (r :: rs) a = r := by show (if a = a then r else _) = r; rw [if_pos rfl]
    constructor
    · rw [List.map_cons, e0, List.map_congr_left e, i1]
    · show (a, OV.lst ((sig (a :: as) (r :: rs) a).map .str)) :: as.map _ = (a, OV.lst (r.map .str)) :: ownsL as rs
      rw [e0, ← i2]
      congr 1
      exact List.map_congr_left fun b hb => by rw [e b hb]
theorem ownsL_fst : ∀ {as : List Addr} {rs : List (List Str)}, as.length = rs.length → (ownsL as rs).map (·.1) = as
  | [], [], _ => rfl
  | a :: as, r :: rs, hl => by
    show a :: (ownsL as rs).map (·.1) = a :: as
    rw [ownsL_fst (by simpa using hl)]
section
variable {c : Cx} {A : Around} {s : Shared} {d : List (Str × LV)} {o os : List (Addr × OV)} {ts : List (Value × LV)} {X : AP} {m cm : Str → Option Value} {h h' : Heap} {fa : Str → Addr} {mg mb : Str → Option Value}
/-- many objects of the frame's own are given up -/
theorem CfgI.dropAll (C : CfgI c X m cm d (os ++ o) ts h) (hs : ∀ b ob, b ∉ os.map (·.1) → h.get? b = some ob → h'.get? b = some ob) : CfgI c (fun b => X b ∧ b ∉ os.map (·.1)) m cm d o ts h' := by
  have own : ∀ b, b ∈ os.map (·.1) → X b ∧ ¬ c.X b ∧ c.g.get? b = none ∧ b ≠ c.env.locals ∧ ∀ n a, c.env.cells.lookup n = some a → a ≠ b := fun b hb => by
    obtain ⟨q, hq, rfl⟩ := List.mem_map.mp hb
    exact (C.owns q (List.mem_append_left _ hq)).2
  have fit : Fits h X h' (fun b => X b ∧ b ∉ os.map (·.1)) := fun b ob e n => ⟨hs b ob (fun q => n (own b q).1) e, fun q => n q.1⟩
  exact {
    ns := C.ns.at' fun ob e => hs _ _ (fun q => (own _ q).2.2.2.1 rfl) e
    cell := fun n b e => let ⟨ob, e1, e2⟩ := C.cell n b e; ⟨ob, hs _ _ (fun q => (own _ q).2.2.2.2 n b e rfl) e1, e2⟩
    stays := fun b ob e => hs _ _ (fun q => by rw [(own _ q).2.2.1] at e; cases e) (C.stays b ob e)
    dom := fun b e => by
      obtain ⟨ob, q⟩ := C.dom b e.1
      exact ⟨ob, hs b _ e.2 q⟩
    sub := fun b e => ⟨C.sub b e, fun q => (own _ q).2.1 e⟩
    gL := C.gL
    XL := ⟨C.XL, fun q => (own _ q).2.2.2.1 rfl⟩
    XC := fun n b e => ⟨⟨(C.XC n b e).1, fun q => (own _ q).2.2.2.2 n b e rfl⟩, (C.XC n b e).2⟩
    gC := C.gC
    CC := C.CC
    vars := fun n lv e => let ⟨v, p, q⟩ := C.vars n lv e; ⟨v, p, q.mono fit⟩
    tmps := fun q e => (C.tmps q e).mono fit
    owns := fun q e => by
      have nd := C.nodup
      rw [List.map_append, List.nodup_append] at nd
      have hne : q.1 ∉ os.map (·.1) := fun e' => nd.2.2 _ e' _ (List.mem_map_of_mem e) rfl
      have O := C.owns q (List.mem_append_right _ e)
      exact ⟨O.1.mono fit fun ob e' => hs _ _ hne e', ⟨O.2.1, hne⟩, O.2.2⟩
    nodup := by
      have nd := C.nodup
      rw [List.map_append, List.nodup_append] at nd
      exact nd.2.1 }
end
end Mine
end

section
open PySem PySem.W PyProof.Rows PySem.Calls
open PySem.Builtin PySem.Builtin.Str
set_option linter.unusedVariables false
set_option maxRecDepth 100000
namespace Mine
theorem den_strs_of {h : Heap} {X : AP} {xs : List Str} {vs : List Value} (hl : vs.length = xs.length) (hv : ∀ (i : Nat) (v : Value), vs[i]? = some v → ∃ x t, xs[i]? = some x ∧ v = Value.str x t) : DenAll h X (xs.map .str) vs := by
  induction xs generalizing vs with
  | nil => have : vs = [] := List.length_eq_zero_iff.mp (by simpa using hl)
           subst this; exact .nil
  | cons x xs ih =>
    cases vs with
    | nil => simp at hl
    | cons v vs =>
      obtain ⟨y, t, h1, rfl⟩ := hv 0 v (by simp)
      simp at h1; subst h1
      exact .cons den_str (ih (by simpa using hl) fun i v h => by simpa using hv (i + 1) v (by simpa using h))
section
variable {c : Cx} {A : Around} {s : Shared} {d : List (Str × LV)} {o : List (Addr × OV)} {ts : List (Value × LV)} {fa : Str → Addr} {mg mb : Str → Option Value}
/-- list(d) of a dict whose keys are texts -/
theorem EvP.listDct {np pos : Pos} {e : Expr} {ks : List Str} (T : Tp fa mg mb c.g) (hh : A.handled = none) (H : EvP c A s d o e (.dct c.prog c.w ks)) (hz : ks.length ≤ 10000)
    (hk : c.env.scope.kind = .function := by rfl) (hx : c.env.kindOf "list" = some .globalImplicit := by rfl) (hgl : c.env.globals = mainGlobals := by rfl) (hbl : c.env.builtins = builtinsNs := by rfl)
    (he : starEach [e] c.env = [(false, eval e c.env)] := by rfl) : EvP c A s d o (.Call (.Name "list" np) [e] [] pos) (.p (SL ks)) := by
  intro ts h tk Q E C kk
  have T1 := C.tp T
  have hm : (("list" : Str), Value.type "list") ∈ bltTable := by first | with_reducible exact mBa | with_reducible exact mBb | with_reducible exact mBc | with_reducible exact mBd | with_reducible exact mBe | with_reducible exact mBf | with_reducible exact mBg | with_reducible exact mBh | with_reducible exact mBi | with_reducible exact mBj | with_reducible exact mBk | with_reducible exact mBl | with_reducible exact mBm | with_reducible exact mBn
  refine Call_ (wp_blt (hgl ▸ T1.G) (T1.bt _ hm).1 (hbl ▸ T1.B) (T1.bt _ hm).2 ?_ hk hx (by decide))
  refine callWith_type1 (args_cons (H _ _ _ _ _ C fun u h1 t1 C1 => args_nil ?_) he) he
  obtain ⟨X, m, cm, C1⟩ := C1
  obtain ⟨a, ob, e0, hxa, ho, hs, hE, es, ep, hdd, hkk, hp, hn⟩ := C1.tmps (u, .dct c.prog c.w ks) (by simp)
  have e0 : u = .ref a := e0
  subst e0
  have hlen : (nones ks).length = ks.length := by unfold nones; rw [List.length_map]
  refine kdl_call (s := St s h1 t1) (kdl_dict (knd := PySem.strKind c.prog c.w) (d := a) (kvs := nones ks) (ep := ep) hs) hh ⟨ob, es, ho, hE, hdd, hkk, hp, by rw [nones_fst]; exact hn⟩ (by rw [hlen]; exact line2 (by lia  )) fun h' tk' acc' c' hk' hD hacc => ?_
  refine kk _ h' tk' ⟨X, m, cm, ((C1.sub_ts fun q hq => List.mem_cons_of_mem _ hq).ext hk').push ?_⟩
  show Den _ _ _ _
  unfold Den
  refine ⟨_, acc'.toList, c', rfl, freshX C1.dom, by rw [hD], den_strs_of ?_ fun i v hv => ?_⟩
  · rw [Array.length_toList, hacc.1, hlen]
  · obtain ⟨k, x, e1, e2⟩ := hacc.2 i v (by rw [← Array.getElem?_toList]; exact hv)
    obtain ⟨t, e3⟩ := Value.isStrOf_shape e2
    refine ⟨k, t, ?_, e3⟩
    unfold nones at e1
    rw [List.getElem?_map] at e1
    cases h : ks[i]? with
    | none => rw [h] at e1; cases e1
    | some y => rw [h] at e1; cases e1; rfl

/-- a call of the merge on lists of the frame's own -/
theorem c3_at {E : Value → Shared → Prop} {Q : Value → Shared → Prop} {u : Value} {as : List Addr} {rs : List (List Str)} {h1 : Heap} {t1 : Nat} (T : Tp fa mg mb c.g) (hA : Room 2 A) (hh : A.handled = none) (hl : as.length = rs.length) (hn : rs.length ≤ 1000) (hs : ∀ r ∈ rs, r.length ≤ 1000) (ht : total rs ≤ 50000)
    (C1 : Cfg c d (ownsL as rs ++ o) ((u, .refs as) :: ts) h1)
    (ok : ∀ res v h' tk', c3V rs = some res → Cfg c d o ((v, .p (SL res)) :: ts) h' → Q v (St s h' tk'))
    (bad : c3V rs = none → ∃ outer, A.frames = some outer ∧ (∀ env ∈ outer, env.scope.kind ≠ .module ∧ ∃ L o, env.frame = some L ∧ L ∉ as ∧ h1.get? L = some o ∧ ∀ vs, o.data ≠ .fields vs) ∧
      ∀ e h' tk' base t, Heap.FlyingW base outer e (.type "RuntimeError") (.ref t) h' → (∀ b ob, b ∉ as → b ∉ outer.filterMap (·.frame) → h1.get? b = some ob → base.get? b = some ob) → (hideAll h1 as).UpToSlots h' → E (.ref e) (St s h' tk')) :
    wpAny (model c.prog c.w) A (call (.ref (fa "_c3_merge")) [u]) Q E (St s h1 t1) := by
  obtain ⟨X, m, cm, C1⟩ := C1
  have hfst := ownsL_fst hl
  have hnd : as.Nodup := by
    have := C1.nodup
    rw [List.map_append, List.nodup_append, hfst] at this
    exact this.1
  obtain ⟨e1, e2⟩ := sig_map hl hnd
  have mem : ∀ a ∈ as, (a, OV.lst ((sig as rs a).map .str)) ∈ ownsL as rs := fun a ha => by rw [← e2]; exact ownS_mem ha
  have len : ∀ a ∈ as, (sig as rs a).length ≤ 1000 := fun a ha => hs _ (by have := List.mem_map_of_mem (f := sig as rs) ha; rwa [e1] at this)
  refine c3_call (as := as) (σ0 := sig as rs) (g0 := c.g) hA hh T C1.stays (fun a ha => (C1.owns _ (List.mem_append_left _ (mem a ha))).2.2.2.1) C1.dom (C1.tmps (u, .refs as) (by simp)) hnd (by lia  ) len (by rw [e1]; exact ht)
    (fun a ha => ⟨(C1.owns _ (List.mem_append_left _ (mem a ha))).2.1, (C1.owns _ (List.mem_append_left _ (mem a ha))).1⟩) (fun res v h' tk' hc hk hd => ?_) (fun hc => bad (by rw [e1] at hc; exact hc))
  rw [e1] at hc
  have C2 := (C1.sub_ts (ts' := ts) fun q hq => List.mem_cons_of_mem _ hq).dropAll (h' := h') (by rw [hfst]; exact hk)
  rw [hfst] at C2
  exact ok res v h' tk' hc ⟨_, m, cm, C2.push hd⟩
theorem EvP.c3 {np pos : Pos} {e : Expr} {rs : List (List Str)} {res : List Str} (T : Tp fa mg mb c.g) (hA : Room 2 A) (hh : A.handled = none) (H : Ev c A s d o e (fun lv o' => ∃ as, as.length = rs.length ∧ lv = .refs as ∧ o' = ownsL as rs ++ o)) (hc : c3V rs = some res)
    (hn : rs.length ≤ 1000) (hs : ∀ r ∈ rs, r.length ≤ 1000) (ht : total rs ≤ 50000)
    (hk : c.env.scope.kind = .function := by rfl) (hx : c.env.kindOf "_c3_merge" = some .globalImplicit := by rfl) (hgl : c.env.globals = mainGlobals := by rfl)
    (he : starEach [e] c.env = [(false, eval e c.env)] := by rfl) : EvP c A s d o (.Call (.Name "_c3_merge" np) [e] [] pos) (.p (SL res)) := by
  intro ts h tk Q E C kk
  have T1 := C.tp T
  have hm : (("_c3_merge" : Str), 2) ∈ fnTable := by first | with_reducible exact mFa | with_reducible exact mFb | with_reducible exact mFc | with_reducible exact mFd | with_reducible exact mFe | with_reducible exact mFf | with_reducible exact mFg | with_reducible exact mFh | with_reducible exact mFi | with_reducible exact mFj | with_reducible exact mFk
  refine Call_ (wp_glob (hgl ▸ T1.G) (T1.fn _ hm).1 ?_ hk hx (by decide))
  obtain ⟨_, oc, od, osl, kV, doc, pm, an, cd, ct, ho, _, _⟩ := T.fn _ hm
  refine callWith_def (o := ⟨oc, od, .func (fdOf "_c3_merge" 2 kV doc pm an cd ct), osl⟩) (fd := fdOf "_c3_merge" 2 kV doc pm an cd ct) rfl (args_cons (H _ _ _ _ _ C fun u h1 t1 lv o' hR C1 => args_nil ?_) he) he
  obtain ⟨as, hl, rfl, rfl⟩ := hR
  have C1' := C1
  obtain ⟨X, m, cm, CI⟩ := C1
  refine ⟨CI.stays _ _ ho, c3_at T hA hh hl hn hs ht C1' (fun res' v h' tk' hc' C2 => ?_) fun hc' => by rw [hc] at hc'; cases hc'⟩
  rw [hc] at hc'
  cases hc'
  exact kk _ _ _ C2
end
end Mine
end

section
open PySem PySem.W PyProof.Rows PySem.Calls
open PySem.Builtin PySem.Builtin.Str
set_option linter.unusedVariables false
set_option maxRecDepth 100000
namespace Mine
noncomputable def turned {α : Type} (stp : Int) (l : List α) : List α := if stp = 1 then l else l.reverse
theorem turned_map {α β : Type} (stp : Int) (f : α → β) (l : List α) : turned stp (l.map f) = (turned stp l).map f := by unfold turned; split <;> simp
theorem turned_len {α : Type} (stp : Int) (l : List α) : (turned stp l).length = l.length := by unfold turned; split <;> simp
theorem turned_mem {α : Type} {stp : Int} {l : List α} {x : α} : x ∈ turned stp l ↔ x ∈ l := by unfold turned; split <;> simp
theorem sl_turned {A : Around} {xs : List PyData} {stp : Int} (hs : stp = 1 ∨ stp = -1) (hz : xs.length ≤ sizeLine) : SlOp A (.list xs) none none (some stp) (.list (turned stp xs)) := by
  rcases hs with rfl | rfl
  · exact sl_one hz
  · exact sl_rev hz
noncomputable def upAdd (W : List (List Str)) (P : List Str) (R : List (List Str)) (acc : List Str) (e : Str) : List Str :=
  if (R.filter fun way => way.tail.contains e).isEmpty = true then acc ++ W.getD (P.idxOf e) [] else acc
noncomputable def upV (W : List (List Str)) (P : List Str) (R : List (List Str)) (es : List Str) : List Str := es.foldl (upAdd W P R) []
noncomputable def dnV (R : List (List Str)) : List Str := R.foldl (fun acc way => acc ++ way.reverse) []
structure LawF (prog : Program) (w : World) (fa : Str → Addr) (mg mb : Str → Option Value) (texts : List Str) (plV : Str → Str) (wyV : Str → List Str) (dueF : List Str → List Str) : Prop where
  tlen : texts.length ≤ 10
  ne : texts ≠ []
  np : ∀ x ∈ texts, FnC prog w fa mg mb 4 "normpath" (.p (.str x)) (· = .p (.str (plV x)))
  wy : ∀ x ∈ texts, FnC prog w fa mg mb 4 "_law_way" (.p (.str (plV x))) (· = .p (SL (wyV (plV x))))
  wl : ∀ x ∈ texts, wyV (plV x) ≠ [] ∧ (wyV (plV x)).length ≤ 100
  due : ∀ stp : Int, stp = 1 ∨ stp = -1 → FnC prog w fa mg mb 4 "_law_due" (.p (SL (turned stp texts))) (· = .p (SL (dueF (turned stp texts))))
  up : ∀ stp : Int, stp = 1 ∨ stp = -1 → c3V (turned stp (texts.map fun x => wyV (plV x))) = some (dueF (turned stp texts))
  upw : ∀ stp : Int, stp = 1 ∨ stp = -1 → (ded (upV (texts.map fun x => wyV (plV x)) (texts.map plV) (turned stp (texts.map fun x => wyV (plV x))) (ded (turned stp (texts.map plV)))).reverse).reverse = dueF (turned stp texts)
  dn : ∀ stp : Int, stp = 1 ∨ stp = -1 → c3V ((turned stp (texts.map fun x => wyV (plV x))).map List.reverse) = some (ded (dnV (turned stp (texts.map fun x => wyV (plV x)))))
  bent : match c3V ((texts.map fun x => wyV (plV x)) ++ [((texts.map fun x => wyV (plV x)).getLast?.getD []).reverse]) with
    | none => 1 < ((texts.map fun x => wyV (plV x)).getLast?.getD []).length
    | some b => ((texts.map fun x => wyV (plV x)).getLast?.getD []).length = 1 ∧ b = dueF texts
theorem ded_len (xs : List Str) : (ded xs).length ≤ xs.length := by
  have : ∀ (l acc : List Str), (l.foldl dedAdd acc).length ≤ acc.length + l.length := by
    intro l; induction l with
    | nil => intro acc; simp
    | cons a r ih =>
      intro acc
      have := ih (dedAdd acc a)
      have h2 : (dedAdd acc a).length ≤ acc.length + 1 := by unfold dedAdd; split <;> simp
      simp only [List.foldl_cons, List.length_cons]; lia  
  simpa [ded] using this xs []
theorem ded_mem {xs : List Str} {x : Str} (h : x ∈ ded xs) : x ∈ xs := by
  have : ∀ (l acc : List Str), x ∈ l.foldl dedAdd acc → x ∈ acc ∨ x ∈ l := by
    intro l; induction l with
    | nil => intro acc h; exact .inl h
    | cons a r ih =>
      intro acc h
      rcases ih _ h with h | h
      · unfold dedAdd at h
        split at h
        · exact .inl h
        · rcases List.mem_append.mp h with h | h
          · exact .inl h
          · exact .inr (by simp at h; simp [h])
      · exact .inr (List.mem_cons_of_mem _ h)
  rcases this xs [] h with h | h
  · cases h
  · exact h
theorem upFold_len {W : List (List Str)} {P : List Str} {R : List (List Str)} {B : Nat} (hW : ∀ w ∈ W, w.length ≤ B) : ∀ (es acc : List Str), (es.foldl (upAdd W P R) acc).length ≤ acc.length + es.length * B
  | [], acc => by simp
  | e :: es, acc => by
    have h1 := upFold_len (P := P) (R := R) hW es (upAdd W P R acc e)
    have h2 : (upAdd W P R acc e).length ≤ acc.length + B := by
      unfold upAdd
      split
      · rw [List.length_append]
        have : (W.getD (P.idxOf e) []).length ≤ B := by
          rw [List.getD_eq_getElem?_getD]
          cases h : W[P.idxOf e]? with
          | none => exact Nat.zero_le _
          | some w => exact hW w (List.mem_of_getElem? h)
        lia  
      · lia  
    simp only [List.foldl_cons, List.length_cons]
    rw [Nat.succ_mul]; lia  
theorem dnFold_len {B : Nat} : ∀ (R : List (List Str)) (acc : List Str), (∀ w ∈ R, w.length ≤ B) → (R.foldl (fun acc way => acc ++ way.reverse) acc).length ≤ acc.length + R.length * B
  | [], acc, _ => by simp
  | w :: R, acc, h => by
    have h1 := dnFold_len R (acc ++ w.reverse) fun q hq => h q (List.mem_cons_of_mem _ hq)
    have h2 := h w List.mem_cons_self
    simp only [List.foldl_cons, List.length_cons, List.length_append, List.length_reverse] at *
    rw [Nat.succ_mul]; lia  
theorem total_le {B : Nat} : ∀ l : List (List Str), (∀ q ∈ l, q.length ≤ B) → total l ≤ l.length * B
  | [], _ => by simp [total]
  | q :: l, h => by
    rw [total_cons, List.length_cons, Nat.succ_mul]
    have := h q List.mem_cons_self
    have := total_le l fun p hp => h p (List.mem_cons_of_mem _ hp)
    lia  
theorem strs_mem {xs : List Str} {y : LV} (h : y ∈ (xs.map PyData.str).map LV.p) : ∃ x ∈ xs, y = .p (.str x) := by
  rw [List.map_map] at h
  obtain ⟨x, h1, h2⟩ := List.mem_map.mp h
  exact ⟨x, h1, h2.symm⟩
theorem strs_comp (xs : List Str) (g : Str → PyData) : ((((xs.map PyData.str).map LV.p).filter fun _ => true).map fun y => g (txt y)) = xs.map g := by
  rw [List.filter_eq_self.mpr (fun _ _ => rfl), List.map_map, List.map_map]; rfl
end Mine
end

section
open PySem PySem.W PyProof.Rows PySem.Calls
open PySem.Builtin PySem.Builtin.Str
set_option linter.unusedVariables false
set_option maxRecDepth 100000
namespace Mine
section
variable {prog : Program} {w : World} {fa : Str → Addr} {mg mb : Str → Option Value}
theorem Ev.imp {c : Cx} {A : Around} {s : Shared} {d : List (Str × LV)} {o : List (Addr × OV)} {e : Expr} {R R' : LV → List (Addr × OV) → Prop} (H : Ev c A s d o e R) (h : ∀ lv o', R lv o' → R' lv o') : Ev c A s d o e R' := fun ts hp tk Q E C k => H ts hp tk Q E C fun v h' tk' lv o' r C' => k v h' tk' lv o' (h lv o' r) C'
theorem items_ls (R : List (List Str)) : ((R.map SL).map LV.p).map ls = R := by
  rw [List.map_map, List.map_map]
  exact (List.map_congr_left fun r _ => ls_SL r).trans (List.map_id _)
theorem txt_ks (xs : List Str) : (xs.map fun k => LV.p (.str k)).map txt = xs := by
  rw [List.map_map]; exact List.map_id _
theorem sl_rev_strs {A : Around} {xs : List Str} (hz : xs.length ≤ 100000) : SlOp A (SL xs) none none (some (-1)) (SL xs.reverse) := by
  have := sl_rev (A := A) (xs := xs.map .str) (line2 (by rw [List.length_map]; exact hz))
  rwa [← List.map_reverse] at this
theorem slN_rev_strs {A : Around} {xs : List Str} (hz : xs.length ≤ 100000) : SlNew A (SL xs) none none (some (-1)) (xs.reverse.map .str) := by
  have := slN_rev (A := A) (xs := xs.map .str) (line2 (by rw [List.length_map]; exact hz))
  rwa [← List.map_reverse] at this
theorem rows_snoc {xs : List (List Str)} {done : List LV} {y : LV} {rest : List LV} (e : (xs.map SL).map LV.p = done ++ y :: rest) : ∃ ds z, done = (ds.map SL).map LV.p ∧ y = .p (SL z) ∧ ∃ r, xs = ds ++ z :: r := by
  rw [List.map_map] at e
  obtain ⟨l1, l2, h1, h2, h3⟩ := List.map_eq_append_iff.mp e
  obtain ⟨z, l3, h4, h5, h6⟩ := List.map_eq_cons_iff.mp h3
  exact ⟨l1, z, by rw [List.map_map, h2], h5.symm, l3, by rw [h1, h4]⟩
/-- what a comprehension over rows leaves behind, where its elements are made of the rows -/
theorem own_of_rows {R : List (List Str)} {g : List Str → List Str} {o : List (Addr × OV)} {lv : LV} {o' : List (Addr × OV)} (h : ∃ as, as.length = ((R.map SL).map LV.p).length ∧ lv = .refs as ∧ o' = ownsL as (((R.map SL).map LV.p).map fun y => g (ls y)) ++ o) :
    ∃ as, as.length = (R.map g).length ∧ lv = .refs as ∧ o' = ownsL as (R.map g) ++ o := by
  obtain ⟨as, h1, h2, h3⟩ := h
  have e : (((R.map SL).map LV.p).map fun y => g (ls y)) = R.map g := by
    rw [show (fun y => g (ls y)) = g ∘ ls from rfl, ← List.map_map, items_ls]
  exact ⟨as, by rw [h1]; simp, h2, by rw [h3, e]⟩
end
end Mine
end

section
open PySem PySem.W PyProof.Rows PySem.Calls
open PySem.Builtin PySem.Builtin.Str
set_option linter.unusedVariables false
set_option maxRecDepth 100000
namespace Mine
section
variable {c : Cx} {A : Around} {s : Shared} {d : List (Str × LV)} {o os : List (Addr × OV)} {ts : List (Value × LV)} {X : AP} {m cm : Str → Option Value} {h h' : Heap} {fa : Str → Addr} {mg mb : Str → Option Value} {Q : Flow → Shared → Prop} {E : Value → Shared → Prop}
theorem Room.mark {k : Nat} (hA : Room k A) (x : Option Value) : Room k (A.mark x) := ⟨hA.dp, hA.un⟩
/-- many objects are given up, and the frame's own namespace keeps what it says -/
theorem CfgI.dropSlots (C : CfgI c X m cm d (os ++ o) ts h) (hs : ∀ b ob, b ∉ os.map (·.1) → b ≠ c.env.locals → h.get? b = some ob → h'.get? b = some ob) (hns : h'.Ns c.env.locals m) : CfgI c (fun b => X b ∧ b ∉ os.map (·.1)) m cm d o ts h' := by
  have own : ∀ b, b ∈ os.map (·.1) → X b ∧ ¬ c.X b ∧ c.g.get? b = none ∧ b ≠ c.env.locals ∧ ∀ n a, c.env.cells.lookup n = some a → a ≠ b := fun b hb => by
    obtain ⟨q, hq, rfl⟩ := List.mem_map.mp hb
    exact (C.owns q (List.mem_append_left _ hq)).2
  have fit : Fits h X h' (fun b => X b ∧ b ∉ os.map (·.1)) := fun b ob e n => ⟨hs b ob (fun q => n (own b q).1) (fun q => n (q ▸ C.XL)) e, fun q => n q.1⟩
  exact {
    ns := hns
    cell := fun n b e => let ⟨ob, e1, e2⟩ := C.cell n b e; ⟨ob, hs _ _ (fun q => (own _ q).2.2.2.2 n b e rfl) (C.XC n b e).2 e1, e2⟩
    stays := fun b ob e => hs _ _ (fun q => by rw [(own _ q).2.2.1] at e; cases e) (fun q => by rw [q, C.gL] at e; cases e) (C.stays b ob e)
    dom := fun b e => by
      by_cases hb : b = c.env.locals
      · subst hb
        obtain ⟨ob, _, _, q, _⟩ := hns; exact ⟨ob, q⟩
      · obtain ⟨ob, q⟩ := C.dom b e.1
        exact ⟨ob, hs b _ e.2 hb q⟩
    sub := fun b e => ⟨C.sub b e, fun q => (own _ q).2.1 e⟩
    gL := C.gL
    XL := ⟨C.XL, fun q => (own _ q).2.2.2.1 rfl⟩
    XC := fun n b e => ⟨⟨(C.XC n b e).1, fun q => (own _ q).2.2.2.2 n b e rfl⟩, (C.XC n b e).2⟩
    gC := C.gC
    CC := C.CC
    vars := fun n lv e => let ⟨v, p, q⟩ := C.vars n lv e; ⟨v, p, q.mono fit⟩
    tmps := fun q e => (C.tmps q e).mono fit
    owns := fun q e => by
      have nd := C.nodup
      rw [List.map_append, List.nodup_append] at nd
      have hne : q.1 ∉ os.map (·.1) := fun e' => nd.2.2 _ e' _ (List.mem_map_of_mem e) rfl
      have O := C.owns q (List.mem_append_right _ e)
      exact ⟨O.1.mono fit fun ob e' => hs _ _ hne O.2.2.2.2.1 e', ⟨O.2.1, hne⟩, O.2.2⟩
    nodup := by
      have nd := C.nodup
      rw [List.map_append, List.nodup_append] at nd
      exact nd.2.1 }
theorem Exs.tryE {body orelse rest : List Stmt} {h₀ : ExceptHandler} {hs : List ExceptHandler} {pos : Pos} {Ex : Value → Shared → Prop} (H : Exs c A s d o ts body (seqQ c A orelse (seqQ c A rest Q E) E) Ex)
    (hx : ∀ e s', Ex e s' → wpAny (model c.prog c.w) A (noteFrame e c.env) (fun _ s₂ => wpAny (model c.prog c.w) A (setFlight e none) (fun _ s₃ => wpAny (model c.prog c.w) A (handleBy e c.env (h₀ :: hs)) (seqQ c A rest Q E) E s₃) E s₂) E s') :
    Exs c A s d o ts (.Try body (h₀ :: hs) orelse [] pos :: rest) Q E :=
  .cons fun h tk C => wpAny_Try_except (wpAny_mono (H h tk C) (fun f s' q => by cases f <;> exact q) fun e s' q => hx e s' q)
/-- what a raising merge leaves to the frame that called it -/
noncomputable def C3E (c : Cx) (s : Shared) (d : List (Str × LV)) (o : List (Addr × OV)) (ts : List (Value × LV)) (e : Value) (s' : Shared) : Prop :=
  ∃ ea h' tk' base t L, e = .ref ea ∧ s' = St s h' tk' ∧ c.env.frame = some L ∧ Heap.FlyingW base [c.env] ea (.type "RuntimeError") (.ref t) h' ∧
    ∃ X m cm as h1 rs, as.length = List.length rs ∧ CfgI c X m cm d (ownsL as rs ++ o) ts h1 ∧ (∀ b ob, b ∉ as → b ≠ L → h1.get? b = some ob → base.get? b = some ob) ∧ (hideAll h1 as).UpToSlots h'
/-- x = _c3_merge(..), and it raises -/
theorem Exs.c3E {np pos px spos : Pos} {x : Str} {e : Expr} {rs : List (List Str)} {rest : List Stmt} {L : Addr} (T : Tp fa mg mb c.g) (hA : Room 2 A) (hh : A.handled = none) (hfr : A.frames = some [c.env]) (hkm : c.env.scope.kind ≠ .module) (hf : c.env.frame = some L) (hL : L = c.env.locals)
    (H : Ev c A s d o e (fun lv o' => ∃ as, as.length = rs.length ∧ lv = .refs as ∧ o' = ownsL as rs ++ o)) (hc : c3V rs = none)
    (hn : rs.length ≤ 1000) (hs : ∀ r ∈ rs, r.length ≤ 1000) (ht : total rs ≤ 50000)
    (hk : c.env.scope.kind = .function := by rfl) (hx : c.env.kindOf "_c3_merge" = some .globalImplicit := by rfl) (hgl : c.env.globals = mainGlobals := by rfl)
    (he : starEach [e] c.env = [(false, eval e c.env)] := by rfl) (hsw : swapsWith (.Call (.Name "_c3_merge" np) [e] [] pos) (some (.Name x px)) spos.line c.env = pure false := by rfl) :
    Exs c A s d o ts (.Assign [.Name x px] (.Call (.Name "_c3_merge" np) [e] [] pos) spos :: rest) Q (C3E c s d o ts) := by
  refine .cons fun h tk C => ?_
  have T1 := C.tp T
  have hm : (("_c3_merge" : Str), 2) ∈ fnTable := by first | with_reducible exact mFa | with_reducible exact mFb | with_reducible exact mFc | with_reducible exact mFd | with_reducible exact mFe | with_reducible exact mFf | with_reducible exact mFg | with_reducible exact mFh | with_reducible exact mFi | with_reducible exact mFj | with_reducible exact mFk
  refine wpAny_Assign_Name (Call_ (wp_glob (hgl ▸ T1.G) (T1.fn _ hm).1 ?_ hk hx (by decide))) hsw
  obtain ⟨_, oc, od, osl, kV, doc, pm, an, cd, ct, ho, _, _⟩ := T.fn _ hm
  refine callWith_def (o := ⟨oc, od, .func (fdOf "_c3_merge" 2 kV doc pm an cd ct), osl⟩) (fd := fdOf "_c3_merge" 2 kV doc pm an cd ct) rfl (args_cons (H _ _ _ _ _ C fun u h1 t1 lv o' hR C1 => args_nil ?_) he) he
  obtain ⟨as, hl, rfl, rfl⟩ := hR
  have C1' := C1
  obtain ⟨X, m, cm, CI⟩ := C1
  have hfst := ownsL_fst hl
  refine ⟨CI.stays _ _ ho, c3_at T hA hh hl hn hs ht C1' (fun res' v h' tk' hc' C2 => by rw [hc] at hc'; cases hc') fun hc' => ⟨[c.env], hfr, fun env hen => ?_, fun ea h' tk' base t hfl hb hup => ?_⟩⟩
  · rw [List.mem_singleton.mp hen]
    obtain ⟨ob, es, ep, e1, e2, _⟩ := CI.ns
    refine ⟨hkm, L, ob, hf, fun q => ?_, by rw [hL]; exact e1, fun vs q => by rw [e2] at q; cases q⟩
    rw [← hfst] at q
    obtain ⟨p, hp, e3⟩ := List.mem_map.mp q
    exact (CI.owns p (List.mem_append_left _ hp)).2.2.2.2.1 (e3.trans hL)
  · refine ⟨ea, h', tk', base, t, L, rfl, rfl, hf, hfl, X, m, cm, as, h1, rs, hl, CI.sub_ts fun q hq => List.mem_cons_of_mem _ hq, fun b ob h1 h2 h3 => hb b ob h1 (fun q => ?_) h3, hup⟩
    obtain ⟨env, he1, he2⟩ := List.mem_filterMap.mp q
    rw [List.mem_singleton.mp he1, hf] at he2
    exact h2 (Option.some.inj he2).symm
end
end Mine
end

section
open PySem PySem.W PyProof.Rows PySem.Calls
open PySem.Builtin PySem.Builtin.Str
set_option linter.unusedVariables false
set_option maxRecDepth 100000
namespace Mine
section
variable {c : Cx} {A : Around} {s : Shared} {d : List (Str × LV)} {o : List (Addr × OV)} {ts : List (Value × LV)} {fa : Str → Addr} {mg mb : Str → Option Value} {Q : Flow → Shared → Prop} {E : Value → Shared → Prop}
theorem c3_caught {np pos : Pos} {b₀ : Stmt} {suite : List Stmt} {rest : List ExceptHandler} {e : Value} {s' : Shared} (T : Tp fa mg mb c.g) (hfr : A.frames = some [c.env]) (hL : ∀ L, c.env.frame = some L → L = c.env.locals)
    (hk : c.env.scope.kind = .function) (hx : c.env.kindOf "RuntimeError" = some .globalImplicit) (hgl : c.env.globals = mainGlobals) (hbl : c.env.builtins = builtinsNs)
    (k : ∀ ea : Addr, Exs c (A.mark (some (.ref ea))) s d o ts (b₀ :: suite) Q (fun _ _ => False)) (hC : C3E c s d o ts e s') :
    wpAny (model c.prog c.w) A (noteFrame e c.env) (fun _ s₂ => wpAny (model c.prog c.w) A (setFlight e none) (fun _ s₃ => wpAny (model c.prog c.w) A (handleBy e c.env (.ExceptHandler (some (.Name "RuntimeError" np)) none (b₀ :: suite) pos :: rest)) Q E s₃) E s₂) E s' := by
  obtain ⟨ea, h', tk', base, t, L, rfl, rfl, hf, hfl, X, m, cm, as, h1, rs, hl, CI, hb, hup⟩ := hC
  have hLL := hL L hf
  have hfst := ownsL_fst hl
  have hLas : L ∉ as := fun q => by
    rw [← hfst] at q
    obtain ⟨p, hp, e3⟩ := List.mem_map.mp q
    exact (CI.owns p (List.mem_append_left _ hp)).2.2.2.2.1 (e3.trans hLL)
  have gbase : Gr c.g base := fun b ob e => hb b ob (fun q => by
    rw [← hfst] at q
    obtain ⟨p, hp, rfl⟩ := List.mem_map.mp q
    rw [(CI.owns p (List.mem_append_left _ hp)).2.2.2.1] at e; cases e) (fun q => by rw [q, hLL, CI.gL] at e; cases e) (CI.stays b ob e)
  refine wpAny_looks_onW (s := St s h' tk') hfr hf hfl fun h2 hh2 hs2 => ?_
  refine wpAny_landsW hh2 fun h3 hfl3 hs3 => ?_
  have T3 : Tp fa mg mb h3 := T.gr fun b ob e => hfl3.1 b ob (gbase b ob e)
  obtain ⟨ob, hob, hobc⟩ := hfl3.there
  have hm : (("RuntimeError" : Str), Value.type "RuntimeError") ∈ bltTable := by first | with_reducible exact mBa | with_reducible exact mBb | with_reducible exact mBc | with_reducible exact mBd | with_reducible exact mBe | with_reducible exact mBf | with_reducible exact mBg | with_reducible exact mBh | with_reducible exact mBi | with_reducible exact mBj | with_reducible exact mBk | with_reducible exact mBl | with_reducible exact mBm | with_reducible exact mBn
  refine wpAny_handleBy_builtin (X := "RuntimeError") (T := "RuntimeError") (b := true) PySem.F.isExc_RuntimeError (by first | rfl | kernel_rfl | (rw [isSubtype_type]; kernel_rfl)) PySem.F.self_RuntimeError
    (wp_blt (tk := tk') (s := s) (h := h3) (hgl ▸ T3.G) (T3.bt _ hm).1 (hbl ▸ T3.B) (T3.bt _ hm).2 ⟨rfl, ⟨ob, hob, hobc⟩, ?_⟩ hk hx (by decide))
  rw [if_pos rfl]
  refine lands_againW (s := St s h3 tk') hfl3 fun h4 hfl4 hs4 => ?_
  have hup4 : (hideAll h1 as).UpToSlots h4 := ((hup.trans hs2).trans hs3).trans hs4
  have C4 := CI.dropSlots (h' := h4) (fun b ob h1 h2 h3 => hfl4.1 b ob (hb b ob (by rwa [hfst] at h1) (by rw [hLL]; exact h2) h3)) (by
    rw [← hLL]
    refine hup4.ns ?_
    have := CI.ns
    rw [← hLL] at this
    exact this.at' fun ob e => hideAll_get as e hLas)
  exact wpAny_mono (k ea h4 tk' ⟨_, m, cm, C4⟩) (fun _ _ q => q) fun _ _ f => f.elim
end
end Mine
end

section
open PySem PySem.W PyProof.Rows PySem.Calls
open PySem.Builtin PySem.Builtin.Str
set_option linter.unusedVariables false
set_option maxRecDepth 100000
namespace Mine
theorem op_last_rows {A : Around} {N : List (List Str)} (hl : N.length ≤ 1001) (hne : N ≠ []) : Op2 A getItem (.list (N.map SL)) (.int (-1)) (SL (N.getLast?.getD [])) :=
  op_idx_neg (by decide) (by simp; have := List.length_pos_iff.mpr hne; lia  ) (by
    have hp := List.length_pos_iff.mpr hne
    have : ((-1 : Int) + ((N.map SL).length : Int)).toNat = N.length - 1 := by simp; lia  
    rw [this, List.getElem?_map, ← List.getLast?_eq_getElem?, List.getLast?_eq_some_getLast hne]; rfl) (Nat.le_trans (by simpa using hl) (by decide))
section
variable {prog : Program} {w : World} {fa : Str → Addr} {mg mb : Str → Option Value}
noncomputable abbrev lawX (prog : Program) (w : World) (al : Addr) (kV doc pm : Value) (an : Option Addr) (cd ct : Value) (L : Addr) (g : Heap) (X : AP) : Cx := cxOf prog w (fdOf "law" 26 kV doc pm an cd ct) L al g X
set_option maxHeartbeats 4000000 in
theorem law_body {al : Addr} {kV doc pm : Value} {an : Option Addr} {cd ct : Value} {L : Addr} {g : Heap} {X : AP} {A : Around} {s : Shared} {Q : Flow → Shared → Prop} {E : Value → Shared → Prop} {script : List Int} {plV : Str → Str} {wyV : Str → List Str} {dueF : List Str → List Str}
    (hA : Room 4 A) (hh : A.handled = none) (hfr : A.frames = some [(lawX prog w al kV doc pm an cd ct L g X).env]) (T : Tp fa mg mb g) (hsc : script.length ≤ 1000) (F : LawF prog w fa mg mb (textsN (script.take 4)) plV wyV dueF)
    (hret : ∀ h tk, Gr g h → Q (.ret (.bool true)) (St s h tk)) :
    Exs (lawX prog w al kV doc pm an cd ct L g X) A s [(Str.ofString "script", .p (.list (script.map .int)))] [] [] (bAt 26) Q E := by
  have hA1 : Room 1 A := hA.le (by lia  )
  have hA2 : Room 2 A := hA.le (by lia  )
  refine Exs.set (EvP.call1 (i := 22) T hA hh (law_texts_ok hsc) .loc) ?_
  generalize textsN (script.take 4) = texts at *
  have htl := F.tlen
  refine Exs.setComp (d₀ := []) (up := fun y d => (Str.ofString "text", y) :: d) (p := fun _ => true) (f := fun y => .str (plV (txt y))) (.of rfl .nil) .loc (IterTo.list hh) (fun ob h => .inl h) ⟨fun L' g' X' y hy => CTgt.loc, fun L' g' X' y o hg hy => rfl, fun L' g' X' y o hg hy hp => ?_, fun y => Sub.nil, ?_⟩ ?_
  · obtain ⟨x, hx, rfl⟩ := strs_mem hy
    exact EvP.call1 (i := 20) (T.gr hg) hA hh (F.np x hx) .loc
  · rw [List.length_map, List.length_map]; exact line_of (by lia  )
  rw [strs_comp texts fun x => .str (plV x)]
  rw [show texts.map (fun x => PyData.str (plV x)) = (texts.map plV).map .str by rw [List.map_map]; rfl]
  refine Exs.setComp (d₀ := []) (up := fun y d => (Str.ofString "place", y) :: d) (p := fun _ => true) (f := fun y => SL (wyV (txt y))) (.of rfl .nil) .loc (IterTo.list hh) (fun ob h => .inl h) ⟨fun L' g' X' y hy => CTgt.loc, fun L' g' X' y o hg hy => rfl, fun L' g' X' y o hg hy hp => ?_, fun y => Sub.nil, ?_⟩ ?_
  · obtain ⟨p, hp, rfl⟩ := strs_mem hy
    obtain ⟨x, hx, rfl⟩ := List.mem_map.mp hp
    exact EvP.call1 (i := 23) (T.gr hg) hA hh (F.wy x hx) .loc
  · rw [List.length_map, List.length_map, List.length_map]; exact line_of (by lia  )
  rw [strs_comp (texts.map plV) fun x => SL (wyV x)]
  rw [show (texts.map plV).map (fun x => SL (wyV x)) = (texts.map fun x => wyV (plV x)).map SL by rw [List.map_map, List.map_map]; rfl]
  have hWm : ∀ r ∈ texts.map (fun x => wyV (plV x)), r ≠ [] ∧ r.length ≤ 100 := fun r hr => by
    obtain ⟨x, hx, rfl⟩ := List.mem_map.mp hr
    exact F.wl x hx
  have hWl : (texts.map fun x => wyV (plV x)).length ≤ 10 := by rw [List.length_map]; exact htl
  have hPl : (texts.map plV).length ≤ 10 := by rw [List.length_map]; exact htl
  have hWP : (texts.map fun x => wyV (plV x)).length = (texts.map plV).length := by rw [List.length_map, List.length_map]
  have hup := F.up
  have hupw := F.upw
  have hdn := F.dn
  have hbent := F.bent
  have hdue := F.due
  have hWne : (texts.map fun x => wyV (plV x)) ≠ [] := by simpa using F.ne
  generalize hW : texts.map (fun x => wyV (plV x)) = W at *
  generalize hP : texts.map plV = P at *
  refine Exs.forF (x := Str.ofString "step") (l0 := .p (.tuple [.int 1, .int (-1)])) (fun _ => [(Str.ofString "texts", .p (SL texts)), (Str.ofString "places", .p (SL P)), (Str.ofString "ways", .p (.list (W.map SL)))]) (fun _ => []) (fun _ _ => False)
    (EvP.tup (ps := [.int 1, .int (-1)]) (.cons .cint (.cons (.un hA1 .cint .pd op_neg_int) .nil)) (line_of (by simp))) (IterTo.tuple hh) (.take rfl <| .take rfl <| .take rfl .nil) rfl (fun done y rest' I ob ts' e => ?_) ?_ (fun _ _ f => f.elim)
  · have hy : y ∈ ([.int 1, .int (-1)] : List PyData).map LV.p := by rw [e]; simp
    obtain ⟨stp, hst, rfl⟩ : ∃ stp : Int, (stp = 1 ∨ stp = -1) ∧ y = .p (.int stp) := by
      simp only [List.map_cons, List.map_nil, List.mem_cons, List.not_mem_nil, or_false] at hy
      rcases hy with rfl | rfl
      · exact ⟨1, .inl rfl, rfl⟩
      · exact ⟨-1, .inr rfl, rfl⟩
    have hup := hup stp hst
    have hupw := hupw stp hst
    have hdn := hdn stp hst
    have hdue := hdue stp hst
    have hRl : (turned stp W).length ≤ 10 := by rw [turned_len]; exact hWl
    have hRm : ∀ r ∈ turned stp W, r ≠ [] ∧ r.length ≤ 100 := fun r hr => hWm r (turned_mem.mp hr)
    have hdd : ∀ e ∈ ded (turned stp P), e ∈ P := fun e he => turned_mem.mp (ded_mem he)
    have hdl : (ded (turned stp P)).length ≤ 10 := Nat.le_trans (ded_len _) (by rw [turned_len]; exact hPl)
    refine Exs.set (lv := .p (.list ((turned stp W).map SL))) (EvP.cast (EvP.slice hA1 .loc .none .none (.some .loc) .pd HasGet.list (sl_turned hst (line_of (by rw [List.length_map]; lia  )))) (by rw [turned_map])) ?_
    generalize hR : turned stp W = R at *
    have hRs : (R.map SL).length ≤ 1000 := by rw [List.length_map]; lia  
    have hit : ((R.map SL).map LV.p).length ≤ 1000 := by rw [List.length_map]; exact hRs
    have htot := total_le (B := 100) R fun r hr => (hRm r hr).2
    have hT10 : (turned stp texts).length ≤ 10 := by rw [turned_len]; exact htl
    -- the merge of the ways up
    refine Exs.set (EvP.c3 (rs := R) T hA2 hh (Ev.imp (Ev.compOwn (d₀ := []) (up := fun y d => (Str.ofString "way", y) :: d) (f := fun y => ls y) (.of rfl .nil) .loc (IterTo.list hh) (fun ob h => .inl h) ⟨fun L' g' X' y hy => CTgt.loc, fun L' g' X' y o hg hy => ?_, fun y => Sub.nil, hit⟩) fun lv o' h => by
      have := own_of_rows (g := fun r => r) h
      rwa [List.map_id'] at this) hup (by lia  ) (fun r hr => by have := (hRm r hr).2; lia  ) (by lia  )) ?_
    · obtain ⟨r, hr, rfl⟩ := rows_mem hy
      rw [ls_SL]
      exact Ev.listN (T.gr hg) .loc .pd (line_of (by rw [List.length_map]; have := (hRm r hr).2; lia  ))
    generalize hDu : dueF (turned stp texts) = du at *
    refine Exs.ite (TsP.cmp hA1 .loc (EvP.call1 (i := 25) (p := .p (SL (turned stp texts))) T hA hh hdue (EvP.cast (EvP.slice hA1 .loc .none .none (.some .loc) .pd HasGet.list (sl_turned hst (line_of (by rw [List.length_map]; lia  )))) (by rw [turned_map]))) .pd .pd op_ne_strs) (fun h0 => by simp at h0) (fun _ => Exs.nilS ?_)
    -- the ends' ways, from behind
    refine Exs.set (lv := .p (SL [])) (EvP.lst (ps := []) .nil (line_of (by simp))) ?_
    refine Exs.forFC (x := Str.ofString "end") (fun done => [(Str.ofString "step", .p (.int stp)), (Str.ofString "texts", .p (SL texts)), (Str.ofString "places", .p (SL P)), (Str.ofString "ways", .p (.list (W.map SL))), (Str.ofString "rows", .p (.list (R.map SL))), (Str.ofString "told", .p (SL du)), (Str.ofString "upward", .p (SL (upV W P R (done.map txt))))])
      (fun _ => [(I, .raw ob)]) (fun _ _ => False) (EvP.call1 (i := 4) (p := .p (SL (turned stp P))) T hA2 hh (dedup_ok (by rw [turned_len]; lia  )) (EvP.cast (EvP.slice hA1 .loc .none .none (.some .loc) .pd HasGet.list (sl_turned hst (line_of (by rw [List.length_map]; lia  )))) (by rw [turned_map]))) (IterTo.dct hh)
      (.take rfl <| .take rfl <| .take rfl <| .take rfl <| .take rfl <| .take rfl <| .take rfl .nil) rfl (fun done y rest'' I2 ob2 ts2 e2 => ?_) ?_ (fun _ _ f => f.elim)
    · have e2' : ((ded (turned stp P)).map PyData.str).map LV.p = done ++ y :: rest'' := by rw [← e2, List.map_map]; rfl
      obtain ⟨ds, z, rfl, rfl, r3, e3⟩ := strs_snoc e2'
      rw [txt_map]
      have hzP : z ∈ P := hdd z (by rw [e3]; simp)
      have hacc := upFold_len (W := W) (P := P) (R := R) (B := 100) (fun w hw => (hWm w hw).2) ds []
      have hds : ds.length ≤ 10 := by rw [e3] at hdl; simp at hdl; lia  
      have eacc : upV W P R (((ds.map PyData.str).map LV.p ++ [LV.p (.str z)]).map txt) = upAdd W P R (upV W P R ds) z := by
        rw [List.map_append, txt_map]; simp [upV, txt]
      have hacc2 : (upV W P R ds).length ≤ 1000 := by unfold upV; simp at hacc; lia  
      generalize hU : upV W P R ds = U at *
      have hidx : P.idxOf z < W.length := by rw [hWP]; exact List.idxOf_lt_length_iff.mpr hzP
      have hg : W.getD (P.idxOf z) [] = W[P.idxOf z] := by simp [hidx]
      have hwl : W[P.idxOf z].length ≤ 100 := (hWm _ (by simp)).2
      refine Exs.ite (k := (R.filter fun way => way.tail.contains z).isEmpty) (TsP.cast (TsP.cmp hA1 (EvP.comp (d₀ := [(Str.ofString "end", .p (.str z))]) (up := fun y d => (Str.ofString "way", y) :: d) (p := fun y => (ls y).tail.contains z) (f := fun y => SL (ls y)) (.of rfl (.cons .nil)) .loc (IterTo.list hh) (fun ob h => .inl h) ⟨fun L2 g2 X2 y hy => CTgt.loc, fun L2 g2 X2 y o hg2 hy => ?_, fun L2 g2 X2 y o hg2 hy hp => ?_, fun y => ?_, ?_⟩) (EvP.lst (ps := []) .nil (line_of (by simp))) .pd .pd op_eq_nil) ?_) (fun c0 => ?_) (fun c0 => ?_)
      · obtain ⟨r, hr, rfl⟩ := rows_mem hy
        rw [ls_SL]
        show TsP _ A s _ _ _ _
        exact TsP.cmp hA1 .cel (EvP.slice hA1 .loc (.some .cint) .none .none .pd HasGet.list (EvP.drop1 (by have := (hRm r hr).2; lia  ))) .pd .pd op_in_strs
      · obtain ⟨r, hr, rfl⟩ := rows_mem hy
        rw [ls_SL]
        exact EvP.loc
      · exact Sub.more .refl
      · rw [List.length_map, List.length_map]; exact line_of (by lia  )
      · rw [rows_filter R fun way => way.tail.contains z]
        cases (R.filter fun way => way.tail.contains z) <;> rfl
      · have hz0 : P.length ≤ 1000 := by lia  
        refine Exs.set (lv := .p (SL (U ++ W[P.idxOf z]))) (EvP.bin hA1 .loc (EvP.sub hA1 .loc (EvP.meth1 hA1 .loc .cel .pd .pd (T := "list") (fun h X v s tk e => by
          obtain ⟨a, vs, n, rfl, ho, hd⟩ := denT_list e
          exact ⟨⟨_, ho, rfl⟩, fun b q => by cases q; exact ⟨_, ho, rfl⟩⟩) PySem.F.plainAttrs_list PySem.F.slot_list_index PySem.F.type_list_index (op_index hzP hz0)) .pd .pd HasGet.list (op_idx (y := SL W[P.idxOf z]) (by lia  ) (by simp [hidx]) (line_of (by rw [List.length_map]; lia  )))) .pd .pd (op_add_strs (by lia  ))) (Exs.nilS ?_)
        refine LoopQ.nextF (o := [(I, .raw ob)]) ?_ ?_; rotate_left; exact rfl
        refine .take rfl <| .take rfl <| .take rfl <| .take rfl <| .take rfl <| .take rfl <| .take ?_ .nil
        rw [eacc]; unfold upAdd; rw [if_pos c0, hg]; rfl
      · refine Exs.nilS ?_
        refine LoopQ.nextF (o := [(I, .raw ob)]) ?_ ?_; rotate_left; exact rfl
        refine .take rfl <| .take rfl <| .take rfl <| .take rfl <| .take rfl <| .take rfl <| .take ?_ .nil
        rw [eacc]; unfold upAdd; rw [if_neg (Bool.eq_false_iff.mp c0)]; rfl
    rw [txt_ks]
    have hUl := upFold_len (W := W) (P := P) (R := R) (B := 100) (fun w hw => (hWm w hw).2) (ded (turned stp P)) []
    have hUl2 : (upV W P R (ded (turned stp P))).length ≤ 1000 := by unfold upV; simp at hUl; lia  
    generalize hU : upV W P R (ded (turned stp P)) = U at *
    have hdr : (ded U.reverse).length ≤ 1000 := Nat.le_trans (ded_len _) (by rw [List.length_reverse]; exact hUl2)
    refine Exs.ite (TsP.cmp hA1 (EvP.slice hA1 (EvP.listDct T hh (EvP.call1 (i := 4) T hA2 hh (dedup_ok (xs := U.reverse) (by rw [List.length_reverse]; lia  )) (EvP.slice hA1 .loc .none .none (.some (.un hA1 .cint .pd op_neg_int)) .pd HasGet.list (sl_rev_strs (by lia  )))) (by lia  )) .none .none (.some (.un hA1 .cint .pd op_neg_int)) .pd HasGet.list (sl_rev_strs (by lia  ))) .loc .pd .pd op_ne_strs) (fun h0 => by rw [hupw] at h0; simp at h0) (fun _ => Exs.nilS ?_)
    -- the ways down
    refine Exs.set (lv := .p (SL [])) (EvP.lst (ps := []) .nil (line_of (by simp))) ?_
    refine Exs.forF (x := Str.ofString "way") (fun done => [(Str.ofString "step", .p (.int stp)), (Str.ofString "texts", .p (SL texts)), (Str.ofString "places", .p (SL P)), (Str.ofString "ways", .p (.list (W.map SL))), (Str.ofString "rows", .p (.list (R.map SL))), (Str.ofString "downward", .p (SL (dnV (done.map ls))))])
      (fun _ => [(I, .raw ob)]) (fun _ _ => False) .loc (IterTo.list hh) (.take rfl <| .take rfl <| .take rfl <| .take rfl <| .take rfl <| .take rfl .nil) rfl (fun done y rest'' I2 ob2 ts2 e2 => ?_) ?_ (fun _ _ f => f.elim)
    · obtain ⟨ds, z, rfl, rfl, r3, e3⟩ := rows_snoc e2
      rw [items_ls]
      have hzl := (hRm z (by rw [e3]; simp)).2
      have hdsl : ds.length ≤ 10 := by rw [e3] at hRl; simp at hRl; lia  
      have hacc := dnFold_len (B := 100) ds [] fun w hw => (hRm w (by rw [e3]; simp [hw])).2
      have hacc2 : (dnV ds).length ≤ 1000 := by unfold dnV; rw [List.length_nil] at hacc; lia  
      have eacc : dnV (((ds.map SL).map LV.p ++ [LV.p (SL z)]).map ls) = dnV ds ++ z.reverse := by
        rw [List.map_append, items_ls]
        show dnV (ds ++ [ls (.p (SL z))]) = _
        rw [ls_SL]; simp [dnV]
      refine Exs.set (lv := .p (SL (dnV ds ++ z.reverse))) (EvP.bin hA1 .loc (EvP.slice hA1 .loc .none .none (.some (.un hA1 .cint .pd op_neg_int)) .pd HasGet.list (sl_rev_strs (by lia  ))) .pd .pd (op_add_strs (by rw [List.length_reverse]; lia  ))) ?_
      refine LoopQ.nextF (o := [(I, .raw ob)]) ?_ ?_; rotate_left; exact rfl
      refine .take rfl <| .take rfl <| .take rfl <| .take rfl <| .take rfl <| .take ?_ .nil
      rw [eacc]; rfl
    rw [items_ls]
    have hDl := dnFold_len (B := 100) R [] fun w hw => (hRm w hw).2
    have hDl2 : (dnV R).length ≤ 1000 := by unfold dnV; rw [List.length_nil] at hDl; lia  
    have hrr : ∀ r ∈ R.map List.reverse, r.length ≤ 100 := fun r hr => by
      obtain ⟨q, hq, rfl⟩ := List.mem_map.mp hr
      rw [List.length_reverse]; exact (hRm q hq).2
    have hrt := total_le (B := 100) _ hrr
    rw [List.length_map] at hrt
    refine Exs.ite (TsP.cmp hA1 (EvP.c3 (rs := R.map List.reverse) T hA2 hh (Ev.imp (Ev.compOwn (d₀ := []) (up := fun y d => (Str.ofString "way", y) :: d) (f := fun y => (ls y).reverse) (.of rfl .nil) .loc (IterTo.list hh) (fun ob h => .inl h) ⟨fun L' g' X' y hy => CTgt.loc, fun L' g' X' y o hg hy => ?_, fun y => Sub.nil, hit⟩) fun lv o' h => own_of_rows (g := List.reverse) h) hdn (by rw [List.length_map]; lia  ) (fun r hr => by have := hrr r hr; lia  ) (by lia  ))
      (EvP.listDct T hh (EvP.call1 (i := 4) T hA2 hh (dedup_ok (xs := dnV R) (by lia  )) .loc) (Nat.le_trans (ded_len _) (by lia  ))) .pd .pd op_ne_strs) (fun h0 => by simp at h0) (fun _ => Exs.nilS ?_)
    · obtain ⟨r, hr, rfl⟩ := rows_mem hy
      rw [ls_SL]
      exact Ev.sliceN hA1 .loc .none .none (.some (.un hA1 .cint .pd op_neg_int)) .pd HasGet.list (slN_rev_strs (by have := (hRm r hr).2; lia  ))
    refine LoopQ.nextF (o := []) ?_ ?_; rotate_left; exact rfl
    exact .take rfl <| .take rfl <| .take rfl .nil
  · have hlm : W.getLast?.getD [] ∈ W := by
      rw [List.getLast?_eq_some_getLast hWne]; exact List.getLast_mem hWne
    have hll := hWm _ hlm
    have hlast : ∀ A : Around, Op2 A getItem (.list (W.map SL)) (.int (-1)) (SL (W.getLast?.getD [])) := fun A => op_last_rows (by lia  ) hWne
    generalize hLw : W.getLast?.getD [] = lw at *
    have hit : ((W.map SL).map LV.p).length ≤ 1000 := by rw [List.length_map, List.length_map]; lia  
    have hb1 : ∀ r ∈ W ++ [lw.reverse], r.length ≤ 100 := fun r hr => by
      rcases List.mem_append.mp hr with hr | hr
      · exact (hWm r hr).2
      · rw [List.mem_singleton.mp hr, List.length_reverse]; exact hll.2
    have hbt := total_le (B := 100) _ hb1
    have hbl : (W ++ [lw.reverse]).length ≤ 11 := by rw [List.length_append, List.length_singleton]; lia  
    cases hc : c3V (W ++ [lw.reverse]) with
    | none =>
      rw [hc] at hbent
      refine Exs.tryE (Ex := C3E _ s _ _ _) (Exs.c3E (rs := W ++ [lw.reverse]) T hA2 hh hfr (by show (sAt 26).kind ≠ .module; decide) rfl rfl (Ev.addRefs (rs := W) (r := lw.reverse) (Ev.imp (Ev.compOwn (d₀ := []) (up := fun y d => (Str.ofString "way", y) :: d) (f := fun y => ls y) (.of rfl .nil) .loc (IterTo.list hh) (fun ob h => .inl h) ⟨fun L' g' X' y hy => CTgt.loc, fun L' g' X' y o hg hy => ?_, fun y => Sub.nil, hit⟩) fun lv o' h => by
        have := own_of_rows (g := fun r => r) h
        rwa [List.map_id'] at this) (fun o => Ev.sliceN hA1 (EvP.sub hA1 .loc (.un hA1 .cint .pd op_neg_int) .pd .pd HasGet.list (hlast A)) .none .none (.some (.un hA1 .cint .pd op_neg_int)) .pd HasGet.list (slN_rev_strs (by lia  ))) (by lia  )) hc (by lia  ) (fun r hr => by have := hb1 r hr; lia  ) (by lia  ))
        (fun e s' hC => c3_caught T hfr (fun L h => (Option.some.inj h).symm) rfl rfl rfl rfl (fun ea => ?_) hC)
      · obtain ⟨r, hr, rfl⟩ := rows_mem hy
        rw [ls_SL]
        exact Ev.listN (T.gr hg) .loc .pd (line_of (by rw [List.length_map]; have := (hWm r hr).2; lia  ))
      · have hA1m : Room 1 (A.mark (some (.ref ea))) := hA1.mark _
        refine Exs.retP (EvP.cmp hA1m (EvP.blt1 T hA1m (by first | with_reducible exact mBa | with_reducible exact mBb | with_reducible exact mBc | with_reducible exact mBd | with_reducible exact mBe | with_reducible exact mBf | with_reducible exact mBg | with_reducible exact mBh | with_reducible exact mBi | with_reducible exact mBj | with_reducible exact mBk | with_reducible exact mBl | with_reducible exact mBm | with_reducible exact mBn) (EvP.sub hA1m .loc (.un hA1m .cint .pd op_neg_int) .pd .pd HasGet.list (hlast _)) .pd (op_len_strs (by lia  ))) .cint .pd .pd op_gt_int) fun v h tk C => ?_
        obtain ⟨X2, m2, cm2, C⟩ := C
        have e : LVden h X2 (.p (.bool (decide ((1 : Int) < (lw.length : Int))))) v := C.tmps (v, _) List.mem_cons_self
        have e := denT_bool (show DenT h X2 (.bool (decide ((1 : Int) < (lw.length : Int)))) v from (show Den h X2 _ v from e))
        rw [e, decide_eq_true (by lia  )]
        exact hret h tk C.stays
    | some b =>
      rw [hc] at hbent
      obtain ⟨hb3, hb4⟩ := hbent
      have hdue1 : FnC prog w fa mg mb 4 "_law_due" (.p (SL texts)) (· = .p (SL (dueF texts))) := by
        have := hdue 1 (.inl rfl)
        simpa [turned] using this
      refine Exs.tryE (Ex := NoE) (Exs.set (EvP.c3 (rs := W ++ [lw.reverse]) T hA2 hh (Ev.addRefs (rs := W) (r := lw.reverse) (Ev.imp (Ev.compOwn (d₀ := []) (up := fun y d => (Str.ofString "way", y) :: d) (f := fun y => ls y) (.of rfl .nil) .loc (IterTo.list hh) (fun ob h => .inl h) ⟨fun L' g' X' y hy => CTgt.loc, fun L' g' X' y o hg hy => ?_, fun y => Sub.nil, hit⟩) fun lv o' h => by
        have := own_of_rows (g := fun r => r) h
        rwa [List.map_id'] at this) (fun o => Ev.sliceN hA1 (EvP.sub hA1 .loc (.un hA1 .cint .pd op_neg_int) .pd .pd HasGet.list (hlast A)) .none .none (.some (.un hA1 .cint .pd op_neg_int)) .pd HasGet.list (slN_rev_strs (by lia  ))) (by lia  )) hc (by lia  ) (fun r hr => by have := hb1 r hr; lia  ) (by lia  )) (Exs.nilS (Exs.nilS ?_))) (fun _ _ f => f.elim)
      · obtain ⟨r, hr, rfl⟩ := rows_mem hy
        rw [ls_SL]
        exact Ev.listN (T.gr hg) .loc .pd (line_of (by rw [List.length_map]; have := (hWm r hr).2; lia  ))
      · refine Exs.retP (EvP.and2 hA1 (EvP.cmp hA1 (EvP.blt1 T hA1 (by first | with_reducible exact mBa | with_reducible exact mBb | with_reducible exact mBc | with_reducible exact mBd | with_reducible exact mBe | with_reducible exact mBf | with_reducible exact mBg | with_reducible exact mBh | with_reducible exact mBi | with_reducible exact mBj | with_reducible exact mBk | with_reducible exact mBl | with_reducible exact mBm | with_reducible exact mBn) (EvP.sub hA1 .loc (.un hA1 .cint .pd op_neg_int) .pd .pd HasGet.list (hlast A)) .pd (op_len_strs (by lia  ))) .cint .pd .pd op_eq_int) (fun _ => EvP.cmp hA1 .loc (EvP.call1 (i := 25) T hA hh hdue1 .loc) .pd .pd op_eq_strs)) fun v h tk C => ?_
        obtain ⟨X2, m2, cm2, C⟩ := C
        have e := denT_bool (show DenT h X2 (.bool true) v from by
          have e := C.tmps (v, _) List.mem_cons_self
          rw [hb3, hb4] at e
          have e2 : LVden h X2 (.p (.bool true)) v := by simpa using e
          exact (show Den h X2 (.bool true) v from e2))
        rw [e]
        exact hret h tk C.stays
end
end Mine
end

section
open PySem PySem.W PyProof.Rows PySem.Calls
open PySem.Builtin PySem.Builtin.Str
set_option linter.unusedVariables false
set_option maxRecDepth 100000
namespace Mine
section
variable {prog : Program} {w : World} {fa : Str → Addr} {mg mb : Str → Option Value}
theorem law_code {A : Around} {s : Shared} {h : Heap} {tk : Nat} {X : AP} {u : Value} {R : Result → Shared → Prop} {al : Addr} {oc : Value} {od : Option Addr} {osl : Array (Option Value)} {kV doc pm : Value} {an : Option Addr} {cd ct : Value} {script : List Int} {plV : Str → Str} {wyV : Str → List Str} {dueF : List Str → List Str}
    (ho : h.get? al = some ⟨oc, od, .func (fdOf "law" 26 kV doc pm an cd ct), osl⟩) (hcd : h.CodeRec cd "law") (hA : Room 5 A) (hh : A.handled = none) (hfr : A.frames = some []) (T : Tp fa mg mb h) (hX : XD X h)
    (hu : Den h X (.list (script.map .int)) u) (hsc : script.length ≤ 1000) (F : LawF prog w fa mg mb (textsN (script.take 4)) plV wyV dueF) (k : ∀ h' tk', Gr h h' → R (.ok (.ret (.bool true))) (St s h' tk')) :
    codeAny (model prog w) A (.call (.ref al) ⟨[u], []⟩) R (St s h tk) := by
  refine codeAny_call_cells (s := St s h tk) (fd := fdOf "law" 26 kV doc pm an cd ct) (body := bAt 26) (binds := [("script", u)]) (by have := hA.dp; lia  ) ho rfl T.lim hcd rfl (by rfl) rfl
    (fun y hy => by rw [List.mem_singleton.mp hy]; exact .inl rfl) (fun s₁ I => ?_)
  obtain ⟨h₁, tk₁, hs⟩ := I.toInCall.same
  have C : Cfg (cxOf prog w (fdOf "law" 26 kV doc pm an cd ct) h.objs.size al h X) [(Str.ofString "script", .p (.list (script.map .int)))] [] [] s₁.heap := by
    refine cfg_enter hX rfl I fun y lv e => ?_
    rw [List.lookup_cons] at e
    cases hb : y == (Str.ofString "script") with
    | false => rw [hb] at e; cases e
    | true =>
      rw [hb] at e; cases e
      have hy := beq_iff_eq.mp hb
      subst hy
      exact ⟨u, rfl, hu⟩
  have hs' : s₁ = St s s₁.heap s₁.toks := by rw [hs]
  rw [hs']
  exact wpAny_mono (law_body (Q := fun f s' => ∃ h' tk', f = .ret (.bool true) ∧ Gr h h' ∧ s' = St s h' tk') (E := NoE) (hA.deeper _) hh (Around.frames_deeper hfr) T hsc F (fun h' tk' gr => ⟨h', tk', rfl, gr, rfl⟩) s₁.heap s₁.toks C)
    (fun f s' q => by obtain ⟨h', tk', rfl, gr, rfl⟩ := q; exact k h' tk' gr) fun _ _ e => e.elim
end
end Mine
end

section
open PySem PySem.W PyProof.Rows PySem.Calls
set_option linter.unusedVariables false
namespace Mine
-- the merge, step by step along the expected row
theorem upd_filter {x : Str} {rem : List Str} (hx : x ∉ rem) {w : List Str} (h : x ∉ (w.filter fun y => decide (y ∈ x :: rem)).tail) :
    upd x (w.filter fun y => decide (y ∈ x :: rem)) = w.filter fun y => decide (y ∈ rem) := by
  have key : ∀ v : List Str, x ∉ v → (v.filter fun y => decide (y ∈ x :: rem)) = v.filter fun y => decide (y ∈ rem) := fun v hv =>
    List.filter_congr fun y hy => by
      have : y ≠ x := fun q => hv (q ▸ hy)
      simp [this]
  induction w with
  | nil => rfl
  | cons a w ih =>
    by_cases ha : a = x
    · subst ha
      have e : ((a :: w).filter fun y => decide (y ∈ a :: rem)) = a :: (w.filter fun y => decide (y ∈ a :: rem)) := by simp
      rw [e] at h ⊢
      have h' : a ∉ w := fun q => h (by simp [q])
      unfold upd
      rw [if_pos (show (a :: w.filter fun y => decide (y ∈ a :: rem)).head? = some a from rfl), List.tail_cons, key w h']
      simp [hx]
    · by_cases hr : a ∈ rem
      · have e : ((a :: w).filter fun y => decide (y ∈ x :: rem)) = a :: (w.filter fun y => decide (y ∈ x :: rem)) := by simp [hr]
        rw [e] at h ⊢
        have h' : x ∉ w := fun q => h (by simp [q])
        unfold upd
        rw [if_neg (by simpa using ha), key w h']
        simp [hr]
      · have e1 : ((a :: w).filter fun y => decide (y ∈ x :: rem)) = (w.filter fun y => decide (y ∈ x :: rem)) := by simp [ha, hr]
        have e2 : ((a :: w).filter fun y => decide (y ∈ rem)) = (w.filter fun y => decide (y ∈ rem)) := by simp [hr]
        rw [e1] at h ⊢
        rw [e2]
        exact ih h
noncomputable def remW (W : List (List Str)) (rem : List Str) : List (List Str) := W.map fun w => w.filter fun y => decide (y ∈ rem)
/-- what makes x the next one -/
structure Next (W : List (List Str)) (x : Str) (rem : List Str) : Prop where
  clear : ∀ w ∈ W, x ∉ (w.filter fun y => decide (y ∈ x :: rem)).tail
  first : ∃ pre w post, W = pre ++ w :: post ∧ (w.filter fun y => decide (y ∈ x :: rem)).head? = some x ∧
    ∀ v ∈ pre, ∀ y, (v.filter fun y => decide (y ∈ x :: rem)).head? = some y → y = x ∨ ∃ u ∈ W, y ∈ (u.filter fun y => decide (y ∈ x :: rem)).tail
noncomputable def Good (W : List (List Str)) : List Str → Prop
  | [] => True
  | x :: rem => x ∉ rem ∧ Next W x rem ∧ Good W rem
theorem pick_next {W : List (List Str)} {x : Str} {rem : List Str} (N : Next W x rem) : pickS ((remW W (x :: rem)).filter fun q => !q.isEmpty) = some x := by
  obtain ⟨pre, w, post, hW, hw, hp⟩ := N.first
  generalize hl : (remW W (x :: rem)).filter (fun q => !q.isEmpty) = live
  have hok : okHead live x = true := by
    unfold okHead
    rw [List.all_eq_true]
    intro r hr
    rw [← hl] at hr
    obtain ⟨u, hu, rfl⟩ := List.mem_map.mp (List.mem_filter.mp hr).1
    have := N.clear u hu
    simpa using this
  have mem : ∀ u ∈ W, ∀ y, y ∈ (u.filter fun y => decide (y ∈ x :: rem)).tail → okHead live y = false := fun u hu y hy => by
    unfold okHead
    rw [List.all_eq_false]
    refine ⟨u.filter fun y => decide (y ∈ x :: rem), ?_, by simpa using hy⟩
    rw [← hl]
    refine List.mem_filter.mpr ⟨List.mem_map_of_mem hu, ?_⟩
    cases h : (u.filter fun y => decide (y ∈ x :: rem)) with
    | nil => rw [h] at hy; cases hy
    | cons _ _ => rfl
  have hsplit : live = ((pre.map fun w => w.filter fun y => decide (y ∈ x :: rem)).filter fun q => !q.isEmpty) ++ (w.filter fun y => decide (y ∈ x :: rem)) :: ((post.map fun w => w.filter fun y => decide (y ∈ x :: rem)).filter fun q => !q.isEmpty) := by
    rw [← hl, hW]
    unfold remW
    rw [List.map_append, List.filter_append, List.map_cons, List.filter_cons]
    have : (!(w.filter fun y => decide (y ∈ x :: rem)).isEmpty) = true := by
      cases h : (w.filter fun y => decide (y ∈ x :: rem)) with
      | nil => rw [h] at hw; cases hw
      | cons _ _ => rfl
    rw [if_pos this]
  -- the first that is fit
  unfold pickS
  cases hf : live.find? (fun q => okHead live (q.head?.getD "")) with
  | none =>
    exfalso
    have := List.find?_eq_none.mp hf _ (by rw [hsplit]; exact List.mem_append_right _ List.mem_cons_self)
    rw [hw] at this
    exact this hok
  | some q =>
    show some (q.head?.getD "") = some x
    congr 1
    obtain ⟨hq, p1, p2, hq2, hq3⟩ := List.find?_eq_some_iff_append.mp hf
    have fin : q = (w.filter fun y => decide (y ∈ x :: rem)) ∨ q ∈ ((pre.map fun w => w.filter fun y => decide (y ∈ x :: rem)).filter fun q => !q.isEmpty) := by
      rw [hsplit] at hq2
      rcases List.append_eq_append_iff.mp hq2 with ⟨as, e1, e2⟩ | ⟨bs, e1, e2⟩
      · cases as with
        | nil =>
          rw [List.nil_append] at e2
          exact .inl (List.cons.inj e2).1.symm
        | cons a r =>
          rw [List.cons_append] at e2
          have e3 := (List.cons.inj e2).1
          have := hq3 a (by rw [e1]; simp)
          rw [← e3, hw] at this
          simp [hok] at this
      · cases bs with
        | nil =>
          rw [List.nil_append] at e2
          exact .inl (List.cons.inj e2).1
        | cons a r =>
          rw [List.cons_append] at e2
          have e3 := (List.cons.inj e2).1
          rw [e1]; exact .inr (by rw [e3]; simp)
    rcases fin with rfl | hm
    · rw [hw]; rfl
    · obtain ⟨hm1, hm2⟩ := List.mem_filter.mp hm
      obtain ⟨v, hv, rfl⟩ := List.mem_map.mp hm1
      cases hh : (v.filter fun y => decide (y ∈ x :: rem)) with
      | nil => rw [hh] at hm2; cases hm2
      | cons y r =>
        rcases hp v hv y (by rw [hh]; rfl) with e | ⟨u, hu, hy⟩
        · subst e; rfl
        · have := mem u hu y hy
          rw [hh] at hq
          simp [this] at hq
theorem c3_run {W : List (List Str)} : ∀ (rem acc : List Str) (f : Nat), Good W rem → rem.length < f → c3F f (remW W rem) acc = some (acc ++ rem)
  | [], acc, f + 1, _, _ => by
    have : ((remW W []).filter fun q => !q.isEmpty) = [] := by
      rw [List.filter_eq_nil_iff]
      intro q hq
      obtain ⟨w, hw, rfl⟩ := List.mem_map.mp hq
      simp
    show (if ((remW W []).filter fun q => !q.isEmpty).isEmpty then some acc else _) = _
    rw [this]; simp
  | x :: rem, acc, f + 1, ⟨hx, N, G⟩, hf => by
    have hp := pick_next N
    have hne : ((remW W (x :: rem)).filter fun q => !q.isEmpty).isEmpty = false := by
      cases h : ((remW W (x :: rem)).filter fun q => !q.isEmpty) with
      | nil => rw [h] at hp; cases hp
      | cons _ _ => rfl
    have e : (remW W (x :: rem)).map (upd x) = remW W rem := by
      unfold remW
      rw [List.map_map]
      exact List.map_congr_left fun w hw => upd_filter hx (N.clear w hw)
    unfold c3F
    rw [hne]
    simp only [hp]
    rw [if_neg (by decide), e, c3_run rem (acc ++ [x]) f G (by simp at hf; lia  )]
    simp
end Mine
end

section
open PySem PySem.W PyProof.Rows PySem.Calls
set_option linter.unusedVariables false
namespace Mine
noncomputable def Forest (W : List (List Str)) : Prop := ∀ w1 ∈ W, ∀ w2 ∈ W, ∀ (x : Str) (p1 s1 p2 s2 : List Str), w1 = p1 ++ x :: s1 → w2 = p2 ++ x :: s2 → s1 = s2
theorem Forest.once {W : List (List Str)} (F : Forest W) {w p s : List Str} {x : Str} (hw : w ∈ W) (e : w = p ++ x :: s) : x ∉ s := by
  intro hx
  obtain ⟨a, b, rfl⟩ := List.append_of_mem hx
  have := F w hw w hw x p (a ++ x :: b) (p ++ x :: a) b e (by rw [e]; simp)
  have := congrArg List.length this
  simp at this; lia  
noncomputable def keepLast : List Str → List Str
  | [] => []
  | x :: l => if x ∈ l then keepLast l else x :: keepLast l
theorem keepLast_mem {y : Str} : ∀ {l : List Str}, y ∈ keepLast l ↔ y ∈ l
  | [] => Iff.rfl
  | x :: l => by
    unfold keepLast
    split
    · rename_i h
      rw [keepLast_mem, List.mem_cons]
      exact ⟨.inr, fun q => q.elim (fun e => e ▸ h) fun q => q⟩
    · rw [List.mem_cons, List.mem_cons, keepLast_mem]
theorem ded_mem_iff {xs : List Str} {x : Str} : x ∈ ded xs ↔ x ∈ xs := by
  refine ⟨ded_mem, fun h => ?_⟩
  have : ∀ (l acc : List Str), x ∈ acc ∨ x ∈ l → x ∈ l.foldl dedAdd acc := by
    intro l; induction l with
    | nil => intro acc h; exact h.elim (fun h => h) fun h => nomatch h
    | cons a r ih =>
      intro acc h
      refine ih _ ?_
      rcases h with h | h
      · left; unfold dedAdd; split
        · exact h
        · exact List.mem_append_left _ h
      · rcases List.mem_cons.mp h with h | h
        · subst h; left; unfold dedAdd; split
          · assumption
          · simp
        · exact .inr h
  exact this xs [] (.inr h)
theorem ded_snoc (xs : List Str) (x : Str) : ded (xs ++ [x]) = if x ∈ xs then ded xs else ded xs ++ [x] := by
  have : ded (xs ++ [x]) = dedAdd (ded xs) x := by simp [ded]
  rw [this]; unfold dedAdd
  by_cases h : x ∈ xs
  · rw [if_pos (ded_mem_iff.mpr h), if_pos h]
  · rw [if_neg (fun q => h (ded_mem_iff.mp q)), if_neg h]
theorem ded_rev : ∀ l : List Str, (ded l.reverse).reverse = keepLast l
  | [] => rfl
  | x :: l => by
    rw [List.reverse_cons, ded_snoc]
    unfold keepLast
    by_cases h : x ∈ l
    · rw [if_pos (by simpa using h), if_pos h, ded_rev l]
    · rw [if_neg (by simpa using h), if_neg h, List.reverse_append, ded_rev l]; rfl
theorem tail_filter {P : Str → Bool} {z : Str} : ∀ {w : List Str}, z ∈ (w.filter P).tail → ∃ p y q, w = p ++ y :: q ∧ P y = true ∧ z ∈ q
  | [], h => by cases h
  | a :: w, h => by
    by_cases ha : P a = true
    · rw [List.filter_cons, if_pos ha, List.tail_cons] at h
      exact ⟨[], a, w, rfl, ha, (List.mem_filter.mp h).1⟩
    · rw [List.filter_cons, if_neg ha] at h
      obtain ⟨p, y, q, e, h1, h2⟩ := tail_filter h
      exact ⟨a :: p, y, q, by rw [e]; rfl, h1, h2⟩
/-- the ways up of a forest, its ends and their ways -/
structure Ends (W : List (List Str)) (es : List Str) (wy : Str → List Str) : Prop where
  forest : Forest W
  way : ∀ e ∈ es, wy e ∈ W ∧ ∃ s, wy e = e :: s
  low : ∀ e ∈ es, ∀ w ∈ W, e ∉ w.tail
  order : ∀ done e later, es = done ++ e :: later → ∃ pre w post, W = pre ++ w :: post ∧ (∃ s, w = e :: s) ∧ ∀ v ∈ pre, ∀ e' ∈ later, v.head? ≠ some e'
  all : ∀ w ∈ W, ∀ y ∈ w, ∃ e ∈ es, y ∈ wy e
theorem Ends.next {W : List (List Str)} {es : List Str} {wy : Str → List Str} (N : Ends W es wy) {done later : List Str} {e : Str} {d t : List Str} {x : Str} (hes : es = done ++ e :: later) (hw : wy e = d ++ x :: t) (hx : x ∉ t ++ later.flatMap wy) :
    Next W x (keepLast (t ++ later.flatMap wy)) := by
  have F := N.forest
  have hee : e ∈ es := by rw [hes]; simp
  have hle : ∀ e' ∈ later, e' ∈ es := fun e' h => by rw [hes]; simp [h]
  have hW := (N.way e hee).1
  have hf : ∀ w : List Str, (w.filter fun y => decide (y ∈ x :: keepLast (t ++ later.flatMap wy))) = w.filter fun y => decide (y ∈ x :: (t ++ later.flatMap wy)) := fun w =>
    List.filter_congr fun y _ => by simp only [List.mem_cons, keepLast_mem]
  have hxt : x ∉ t := fun q => hx (List.mem_append_left _ q)
  have hxl : ∀ e' ∈ later, x ∉ wy e' := fun e' h q => hx (List.mem_append_right _ (List.mem_flatMap.mpr ⟨e', h, q⟩))
  -- a member of what is left that stands before x on a way up is x
  have before : ∀ w ∈ W, ∀ p y q, w = p ++ y :: q → x ∈ q → y ∉ x :: (t ++ later.flatMap wy) := fun w hwW p y q ew hxq hy => by
    rcases List.mem_cons.mp hy with rfl | hy
    · exact F.once hwW ew hxq
    · rcases List.mem_append.mp hy with hy | hy
      · obtain ⟨a, b, rfl⟩ := List.append_of_mem hy
        have := F w hwW (wy e) hW y p q (d ++ x :: a) b ew (by rw [hw]; simp)
        rw [this] at hxq
        exact hxt (by simp [hxq])
      · obtain ⟨e', he', hy⟩ := List.mem_flatMap.mp hy
        obtain ⟨a, b, e3⟩ := List.append_of_mem hy
        have := F w hwW (wy e') (N.way e' (hle e' he')).1 y p q a b ew e3
        rw [this] at hxq
        exact hxl e' he' (by rw [e3]; simp [hxq])
  have hfil : ((d ++ x :: t).filter fun y => decide (y ∈ x :: (t ++ later.flatMap wy))) = x :: (t.filter fun y => decide (y ∈ x :: (t ++ later.flatMap wy))) := by
    have hd : (d.filter fun y => decide (y ∈ x :: (t ++ later.flatMap wy))) = [] := by
      rw [List.filter_eq_nil_iff]
      intro z hz
      obtain ⟨a, b, rfl⟩ := List.append_of_mem hz
      have := before (wy e) hW a z (b ++ x :: t) (by rw [hw]; simp) (by simp)
      simpa using this
    rw [List.filter_append, hd, List.nil_append, List.filter_cons, if_pos (by simp)]
  refine ⟨fun w hwW h => ?_, ?_⟩
  · rw [hf] at h
    obtain ⟨p, y, q, e1, h1, h2⟩ := tail_filter h
    exact before w hwW p y q e1 h2 (of_decide_eq_true h1)
  · obtain ⟨pre, w, post, e1, ⟨s, e2⟩, h3⟩ := N.order done e later hes
    have hwW : w ∈ W := by rw [e1]; simp
    obtain ⟨s', e3⟩ := (N.way e hee).2
    have ews : w = wy e := by
      have := F w hwW (wy e) hW e [] s [] s' (by rw [e2]; rfl) (by rw [e3]; rfl)
      rw [e2, e3, this]
    refine ⟨pre, w, post, e1, by rw [hf, ews, hw, hfil]; rfl, fun v hv y hy => ?_⟩
    rw [hf] at hy
    have hvW : v ∈ W := by rw [e1]; simp [hv]
    have hym : y ∈ v.filter fun y => decide (y ∈ x :: (t ++ later.flatMap wy)) := List.mem_of_mem_head? hy
    obtain ⟨hyv, hyS⟩ := List.mem_filter.mp hym
    have hyS := of_decide_eq_true hyS
    rcases List.mem_cons.mp hyS with hyx | hyS
    · exact .inl hyx
    · refine .inr ?_
      rcases List.mem_append.mp hyS with hyt | hyl
      · refine ⟨wy e, hW, ?_⟩
        rw [hf, hw, hfil, List.tail_cons]
        exact List.mem_filter.mpr ⟨hyt, by simp [hyt]⟩
      · obtain ⟨e', he', hy'⟩ := List.mem_flatMap.mp hyl
        obtain ⟨s2, e4⟩ := (N.way e' (hle e' he')).2
        have hne : y ≠ e' := fun q => by
          subst q
          cases v with
          | nil => cases hyv
          | cons a r =>
            rcases List.mem_cons.mp hyv with q | q
            · exact h3 _ hv y he' (by rw [q]; rfl)
            · exact N.low y (hle y he') _ hvW q
        refine ⟨wy e', (N.way e' (hle e' he')).1, ?_⟩
        rw [hf]
        have : ((wy e').filter fun y => decide (y ∈ x :: (t ++ later.flatMap wy))) = wy e' := List.filter_eq_self.mpr fun z hz => by
          have : z ∈ later.flatMap wy := List.mem_flatMap.mpr ⟨e', he', hz⟩
          simp [this]
        rw [this, e4, List.tail_cons]
        rw [e4] at hy'
        rcases List.mem_cons.mp hy' with q | q
        · exact absurd q hne
        · exact q
theorem Ends.good {W : List (List Str)} {es : List Str} {wy : Str → List Str} (N : Ends W es wy) : ∀ (later done : List Str), es = done ++ later → Good W (keepLast (later.flatMap wy))
  | [], _, _ => trivial
  | e :: later, done, hes => by
    have ih := N.good later (done ++ [e]) (by rw [hes]; simp)
    have go : ∀ t d, wy e = d ++ t → Good W (keepLast (t ++ later.flatMap wy)) := by
      intro t
      induction t with
      | nil => intro d _; exact ih
      | cons x t iht =>
        intro d hd
        have h1 := iht (d ++ [x]) (by rw [hd]; simp)
        show Good W (if x ∈ t ++ later.flatMap wy then _ else x :: _)
        split
        · exact h1
        · rename_i hx
          exact ⟨fun q => hx (keepLast_mem.mp q), N.next hes hd hx, h1⟩
    rw [List.flatMap_cons]
    exact go (wy e) [] rfl
theorem keepLast_nodup : ∀ l : List Str, (keepLast l).Nodup
  | [] => .nil
  | x :: l => by
    unfold keepLast
    split
    · exact keepLast_nodup l
    · rename_i h
      exact List.nodup_cons.mpr ⟨fun q => h (keepLast_mem.mp q), keepLast_nodup l⟩
theorem nodup_len : ∀ (l m : List Str), l.Nodup → (∀ x ∈ l, x ∈ m) → l.length ≤ m.length
  | [], _, _, _ => Nat.zero_le _
  | x :: l, m, hn, hs => by
    obtain ⟨h1, h2⟩ := List.nodup_cons.mp hn
    have hx := hs x List.mem_cons_self
    have := nodup_len l (m.erase x) h2 fun y hy => (List.mem_erase_of_ne (fun q : y = x => h1 (q ▸ hy))).mpr (hs y (List.mem_cons_of_mem _ hy))
    rw [List.length_erase_of_mem hx] at this
    have hp : 0 < m.length := List.length_pos_of_mem hx
    rw [List.length_cons]; lia  
theorem Ends.merge {W : List (List Str)} {es : List Str} {wy : Str → List Str} (N : Ends W es wy) : c3V W = some (keepLast (es.flatMap wy)) := by
  have hr : remW W (keepLast (es.flatMap wy)) = W := by
    unfold remW
    refine (List.map_congr_left fun w hw => ?_).trans (List.map_id _)
    exact List.filter_eq_self.mpr fun y hy => by
      obtain ⟨e, he, h⟩ := N.all w hw y hy
      have : y ∈ keepLast (es.flatMap wy) := keepLast_mem.mpr (List.mem_flatMap.mpr ⟨e, he, h⟩)
      simpa using this
  have hlen : (keepLast (es.flatMap wy)).length < total W + 1 := by
    have := nodup_len _ W.flatten (keepLast_nodup _) fun y hy => by
      obtain ⟨e, he, h⟩ := List.mem_flatMap.mp (keepLast_mem.mp hy)
      exact List.mem_flatten.mpr ⟨wy e, (N.way e he).1, h⟩
    rw [List.length_flatten] at this
    exact Nat.lt_succ_of_le this
  have := c3_run (W := W) (keepLast (es.flatMap wy)) [] (total W + 1) (N.good es [] rfl) hlen
  rw [hr] at this
  simpa [c3V] using this
end Mine
end

section
open PySem PySem.W PyProof.Rows PySem.Calls
set_option linter.unusedVariables false
namespace Mine
noncomputable def newOnes : List Str → List Str → List Str
  | _, [] => []
  | seen, x :: l => if x ∈ seen then newOnes seen l else x :: newOnes (x :: seen) l
theorem newOnes_mem {y : Str} : ∀ {l seen : List Str}, y ∈ newOnes seen l ↔ y ∈ l ∧ y ∉ seen
  | [], seen => by simp [newOnes]
  | x :: l, seen => by
    unfold newOnes
    split
    · rename_i h
      rw [newOnes_mem, List.mem_cons]
      exact ⟨fun q => ⟨.inr q.1, q.2⟩, fun q => ⟨q.1.elim (fun e => absurd (e ▸ h) q.2) (fun q => q), q.2⟩⟩
    · rename_i h
      rw [List.mem_cons, newOnes_mem, List.mem_cons, List.mem_cons]
      constructor
      · rintro (rfl | ⟨q1, q2⟩)
        · exact ⟨.inl rfl, h⟩
        · exact ⟨.inr q1, fun q => q2 (.inr q)⟩
      · rintro ⟨q1 | q1, q2⟩
        · exact .inl q1
        · by_cases e : y = x
          · exact .inl e
          · exact .inr ⟨q1, fun q => q.elim e q2⟩
theorem newOnes_nodup : ∀ l seen : List Str, (newOnes seen l).Nodup
  | [], _ => .nil
  | x :: l, seen => by
    unfold newOnes
    split
    · exact newOnes_nodup l seen
    · exact List.nodup_cons.mpr ⟨fun q => (newOnes_mem.mp q).2 List.mem_cons_self, newOnes_nodup l _⟩
theorem fold_ded : ∀ (l acc seen : List Str), (∀ y, y ∈ acc ↔ y ∈ seen) → l.foldl dedAdd acc = acc ++ newOnes seen l
  | [], acc, seen, _ => by simp [newOnes]
  | x :: l, acc, seen, h => by
    rw [List.foldl_cons]
    unfold newOnes
    by_cases hx : x ∈ acc
    · rw [show dedAdd acc x = acc by unfold dedAdd; rw [if_pos hx], if_pos ((h x).mp hx), fold_ded l acc seen h]
    · rw [show dedAdd acc x = acc ++ [x] by unfold dedAdd; rw [if_neg hx], if_neg (fun q => hx ((h x).mpr q)), fold_ded l (acc ++ [x]) (x :: seen) fun y => by
        rw [List.mem_append, List.mem_singleton, List.mem_cons, h y]
        exact ⟨fun q => q.elim .inr .inl, fun q => q.elim .inr .inl⟩]
      simp
theorem ded_new (l : List Str) : ded l = newOnes [] l := by
  have := fold_ded l [] [] fun y => Iff.rfl
  simpa [ded] using this
theorem down_next {W : List (List Str)} (F : Forest W) {pre post : List (List Str)} {w d t seen : List Str} {x : Str} (hW : W = pre ++ w :: post) (hw : w.reverse = d ++ x :: t) (hs : ∀ y, y ∈ seen ↔ y ∈ pre.flatMap List.reverse ++ d) (hx : x ∉ seen) :
    Next (W.map List.reverse) x (newOnes (x :: seen) (t ++ post.flatMap List.reverse)) := by
  have hwW : w ∈ W := by rw [hW]; simp
  have hw' : w = t.reverse ++ x :: d.reverse := by
    have := congrArg List.reverse hw
    simpa using this
  have notSeen : ∀ y, y ∈ x :: newOnes (x :: seen) (t ++ post.flatMap List.reverse) → y ∉ seen := fun y hy => by
    rcases List.mem_cons.mp hy with rfl | hy
    · exact hx
    · exact fun q => (newOnes_mem.mp hy).2 (List.mem_cons_of_mem _ q)
  refine ⟨fun u hu h => ?_, pre.map List.reverse, w.reverse, post.map List.reverse, by rw [hW]; simp, ?_, fun v hv y hy => ?_⟩
  · obtain ⟨v, hv, rfl⟩ := List.mem_map.mp hu
    obtain ⟨p, y, q, e1, h1, h2⟩ := tail_filter h
    have h1 := notSeen y (of_decide_eq_true h1)
    obtain ⟨a, b, rfl⟩ := List.append_of_mem h2
    have ev : v = b.reverse ++ x :: (a.reverse ++ y :: p.reverse) := by
      have := congrArg List.reverse e1
      simpa using this
    have := F v hv w hwW x _ _ _ _ ev hw'
    have hyd : y ∈ d := by
      have : y ∈ d.reverse := by rw [← this]; simp
      simpa using this
    exact h1 ((hs y).mpr (List.mem_append_right _ hyd))
  · have hd : (d.filter fun y => decide (y ∈ x :: newOnes (x :: seen) (t ++ post.flatMap List.reverse))) = [] := by
      rw [List.filter_eq_nil_iff]
      intro z hz q
      exact notSeen z (of_decide_eq_true q) ((hs z).mpr (List.mem_append_right _ hz))
    rw [hw, List.filter_append, hd, List.nil_append, List.filter_cons, if_pos (by simp)]
    rfl
  · exfalso
    obtain ⟨u, hu, rfl⟩ := List.mem_map.mp hv
    obtain ⟨h1, h2⟩ := List.mem_filter.mp (List.mem_of_mem_head? hy)
    exact notSeen y (of_decide_eq_true h2) ((hs y).mpr (List.mem_append_left _ (List.mem_flatMap.mpr ⟨u, hu, h1⟩)))
theorem down_good {W : List (List Str)} (F : Forest W) : ∀ (post pre : List (List Str)) (seen : List Str), W = pre ++ post → (∀ y, y ∈ seen ↔ y ∈ pre.flatMap List.reverse) → Good (W.map List.reverse) (newOnes seen (post.flatMap List.reverse))
  | [], _, _, _, _ => trivial
  | w :: post, pre, seen, hW, hs => by
    have go : ∀ t d seen, w.reverse = d ++ t → (∀ y, y ∈ seen ↔ y ∈ pre.flatMap List.reverse ++ d) → Good (W.map List.reverse) (newOnes seen (t ++ post.flatMap List.reverse)) := by
      intro t
      induction t with
      | nil =>
        intro d seen hd hs
        refine down_good F post (pre ++ [w]) seen (by rw [hW]; simp) fun y => ?_
        rw [hs, List.flatMap_append, List.flatMap_cons, List.flatMap_nil, List.append_nil, hd, List.append_nil]
      | cons x t iht =>
        intro d seen hd hs
        show Good _ (if x ∈ seen then newOnes seen (t ++ post.flatMap List.reverse) else x :: newOnes (x :: seen) (t ++ post.flatMap List.reverse))
        split
        · rename_i h
          refine iht (d ++ [x]) seen (by rw [hd]; simp) fun y => ?_
          rw [hs, ← List.append_assoc, List.mem_append (t := [x]), List.mem_singleton]
          exact ⟨.inl, fun q => q.elim (fun q => q) fun e => by subst e; exact (hs _).mp h⟩
        · rename_i h
          refine ⟨fun q => (newOnes_mem.mp q).2 List.mem_cons_self, down_next F hW hd hs h, iht (d ++ [x]) (x :: seen) (by rw [hd]; simp) fun y => ?_⟩
          rw [List.mem_cons, hs, ← List.append_assoc, List.mem_append (t := [x]), List.mem_singleton]
          exact ⟨fun q => q.elim .inr .inl, fun q => q.elim .inr .inl⟩
    rw [List.flatMap_cons]
    exact go w.reverse [] seen rfl (by simpa using hs)
theorem dnV_eq (R : List (List Str)) : dnV R = R.flatMap List.reverse := by
  have : ∀ (R : List (List Str)) (acc : List Str), R.foldl (fun acc way => acc ++ way.reverse) acc = acc ++ R.flatMap List.reverse := by
    intro R; induction R with
    | nil => intro acc; simp
    | cons w R ih => intro acc; rw [List.foldl_cons, ih, List.flatMap_cons, List.append_assoc]
  simpa [dnV] using this R []
theorem down_merge {W : List (List Str)} (F : Forest W) : c3V (W.map List.reverse) = some (ded (dnV W)) := by
  rw [dnV_eq, ded_new]
  have hr : remW (W.map List.reverse) (newOnes [] (W.flatMap List.reverse)) = W.map List.reverse := by
    unfold remW
    refine (List.map_congr_left fun w hw => ?_).trans (List.map_id _)
    obtain ⟨v, hv, rfl⟩ := List.mem_map.mp hw
    exact List.filter_eq_self.mpr fun y hy => by
      have : y ∈ newOnes [] (W.flatMap List.reverse) := newOnes_mem.mpr ⟨List.mem_flatMap.mpr ⟨v, hv, hy⟩, by simp⟩
      simpa using this
  have hlen : (newOnes [] (W.flatMap List.reverse)).length < total (W.map List.reverse) + 1 := by
    have := nodup_len (newOnes [] (W.flatMap List.reverse)) (W.map List.reverse).flatten (newOnes_nodup _ _) fun y hy => by
      obtain ⟨v, hv, h⟩ := List.mem_flatMap.mp (newOnes_mem.mp hy).1
      exact List.mem_flatten.mpr ⟨List.reverse v, List.mem_map_of_mem hv, h⟩
    rw [List.length_flatten] at this
    exact Nat.lt_succ_of_le this
  have := c3_run (W := W.map List.reverse) (newOnes [] (W.flatMap List.reverse)) [] (total (W.map List.reverse) + 1) (down_good F W [] [] rfl (by simp)) hlen
  rw [hr] at this
  simpa [c3V] using this
/-- two rows that bar each other: the merge refuses -/
theorem c3_none : ∀ (f : Nat) (seqs : List (List Str)) (acc : List Str) (u v : List Str) (a b : Str), u ∈ seqs → v ∈ seqs → u.head? = some a → b ∈ u.tail → v.head? = some b → a ∈ v.tail → c3F f seqs acc = none
  | 0, _, _, _, _, _, _, _, _, _, _, _, _ => rfl
  | f + 1, seqs, acc, u, v, a, b, hu, hv, ha, hb, hb', ha' => by
    have live : ∀ q ∈ seqs, ∀ z, z ∈ q.tail → q ∈ seqs.filter fun q => !q.isEmpty := fun q hq z hz => List.mem_filter.mpr ⟨hq, by cases q with
      | nil => cases hz
      | cons _ _ => rfl⟩
    have lu := live u hu b hb
    have lv := live v hv a ha'
    unfold c3F
    have hne : (seqs.filter fun q => !q.isEmpty).isEmpty = false := by
      cases h : (seqs.filter fun q => !q.isEmpty) with
      | nil => rw [h] at lu; cases lu
      | cons _ _ => rfl
    rw [hne, if_neg (by decide)]
    cases hp : pickS (seqs.filter fun q => !q.isEmpty) with
    | none => rfl
    | some x =>
      have hok : okHead (seqs.filter fun q => !q.isEmpty) x = true := by
        unfold pickS at hp
        cases hf : (seqs.filter fun q => !q.isEmpty).find? (fun q => okHead (seqs.filter fun q => !q.isEmpty) (q.head?.getD "")) with
        | none => rw [hf] at hp; cases hp
        | some q =>
          rw [hf] at hp
          have := List.find?_some hf
          have e : q.head?.getD "" = x := by simpa using hp
          rwa [e] at this
      unfold okHead at hok
      rw [List.all_eq_true] at hok
      have hxb : x ≠ b := fun q => by have := hok u lu; subst q; simp [hb] at this
      have hxa : x ≠ a := fun q => by have := hok v lv; subst q; simp [ha'] at this
      have eu : upd x u = u := by unfold upd; rw [if_neg (by rw [ha]; simpa using Ne.symm hxa)]
      have ev : upd x v = v := by unfold upd; rw [if_neg (by rw [hb']; simpa using Ne.symm hxb)]
      exact c3_none f _ _ u v a b (List.mem_map.mpr ⟨u, hu, eu⟩) (List.mem_map.mpr ⟨v, hv, ev⟩) ha hb hb' ha'
end Mine
end

section
open PySem PySem.W PyProof.Rows PySem.Calls
set_option linter.unusedVariables false
namespace Mine
theorem idx_here {x : Str} : ∀ {T l : List Str}, x ∉ T → (T ++ x :: l).idxOf x = T.length
  | [], l, _ => by simp
  | a :: T, l, h => by
    have h1 : a ≠ x := fun q => h (q ▸ List.mem_cons_self)
    rw [List.cons_append, List.idxOf_cons]
    have : (a == x) = false := by simpa using h1
    rw [this]
    simp [idx_here (l := l) (fun q => h (List.mem_cons_of_mem _ q))]
theorem idx_past {y : Str} : ∀ {T l : List Str}, y ∉ T → T.length ≤ (T ++ l).idxOf y
  | [], l, _ => Nat.zero_le _
  | a :: T, l, h => by
    have h1 : a ≠ y := fun q => h (q ▸ List.mem_cons_self)
    rw [List.cons_append, List.idxOf_cons]
    have : (a == y) = false := by simpa using h1
    rw [this]
    have := idx_past (l := l) (fun q => h (List.mem_cons_of_mem a q))
    simp; lia  
theorem new_pairwise {P : List Str} : ∀ (l T seen : List Str), P = T ++ l → (∀ y, y ∈ seen ↔ y ∈ T) → (newOnes seen l).Pairwise (fun a b => P.idxOf a < P.idxOf b)
  | [], _, _, _, _ => .nil
  | x :: l, T, seen, hP, hs => by
    unfold newOnes
    split
    · rename_i h
      refine new_pairwise l (T ++ [x]) seen (by rw [hP]; simp) fun y => ?_
      rw [hs, List.mem_append, List.mem_singleton]
      exact ⟨.inl, fun q => q.elim (fun q => q) fun e => by subst e; exact (hs _).mp h⟩
    · rename_i h
      refine List.pairwise_cons.mpr ⟨fun y hy => ?_, new_pairwise l (T ++ [x]) (x :: seen) (by rw [hP]; simp) fun y => ?_⟩
      · have hx : x ∉ T := fun q => h ((hs x).mpr q)
        have hy2 := (newOnes_mem.mp hy).2
        have hy3 : y ∉ T ++ [x] := fun q => by
          rcases List.mem_append.mp q with q | q
          · exact hy2 (List.mem_cons_of_mem _ ((hs y).mpr q))
          · rw [List.mem_singleton.mp q] at hy2; exact hy2 List.mem_cons_self
        have e1 : P.idxOf x = T.length := by rw [hP]; exact idx_here hx
        have e2 := idx_past (l := l) hy3
        have e3 : (T ++ [x]) ++ l = P := by rw [hP]; simp
        rw [e3] at e2
        simp at e2; lia  
      · rw [List.mem_cons, hs, List.mem_append, List.mem_singleton]
        exact ⟨fun q => q.elim .inr .inl, fun q => q.elim .inr .inl⟩
theorem ded_pairwise (P : List Str) : (ded P).Pairwise (fun a b => P.idxOf a < P.idxOf b) := by
  rw [ded_new]; exact new_pairwise P [] [] rfl (by simp)
noncomputable def hd1 (w : List Str) : Str := w.head?.getD ""
/-- the places that stand above no other -/
noncomputable def esOf (W : List (List Str)) : List Str := (ded (W.map hd1)).filter fun e => (W.filter fun w => w.tail.contains e).isEmpty
noncomputable def wyOf (W : List (List Str)) (e : Str) : List Str := (W.find? fun w => w.head? == some e).getD []
theorem esOf_low {W : List (List Str)} {e : Str} (h : e ∈ esOf W) : ∀ w ∈ W, e ∉ w.tail := fun w hw q => by
  have := (List.mem_filter.mp h).2
  have h2 : w ∈ W.filter fun w => w.tail.contains e := List.mem_filter.mpr ⟨hw, by simpa using q⟩
  cases hf : (W.filter fun w => w.tail.contains e) with
  | nil => rw [hf] at h2; cases h2
  | cons _ _ => rw [hf] at this; cases this
theorem wyOf_spec {W : List (List Str)} (ne : ∀ w ∈ W, w ≠ []) {e : Str} (h : e ∈ W.map hd1) : wyOf W e ∈ W ∧ ∃ s, wyOf W e = e :: s := by
  obtain ⟨w, hw, he⟩ := List.mem_map.mp h
  have hwh : w.head? = some e := by
    cases w with
    | nil => exact absurd rfl (ne [] hw)
    | cons a r => simpa [hd1] using he
  unfold wyOf
  cases hf : W.find? (fun w => w.head? == some e) with
  | none => have := List.find?_eq_none.mp hf w hw; rw [hwh] at this; simp at this
  | some v =>
    refine ⟨List.mem_of_find?_eq_some hf, ?_⟩
    have := List.find?_some hf
    have : v.head? = some e := by simpa using this
    show ∃ s, v = e :: s
    cases v with
    | nil => cases this
    | cons a r => exact ⟨r, by simpa using this⟩
theorem ends_of {W : List (List Str)} (F : Forest W) (ne : ∀ w ∈ W, w ≠ []) : Ends W (esOf W) (wyOf W) where
  forest := F
  way := fun e he => wyOf_spec ne (ded_mem (List.mem_filter.mp he).1)
  low := fun e he => esOf_low he
  order := fun done e later hes => by
    have he : e ∈ W.map hd1 := ded_mem (List.mem_filter.mp (show e ∈ esOf W by rw [hes]; simp)).1
    have hi : (W.map hd1).idxOf e < W.length := by have := List.idxOf_lt_length_iff.mpr he; simpa using this
    have hpw : (esOf W).Pairwise (fun a b => (W.map hd1).idxOf a < (W.map hd1).idxOf b) := (ded_pairwise _).filter _
    rw [hes] at hpw
    have hlt : ∀ e' ∈ later, (W.map hd1).idxOf e < (W.map hd1).idxOf e' := (List.pairwise_cons.mp (List.pairwise_append.mp hpw).2.1).1
    refine ⟨W.take ((W.map hd1).idxOf e), W[(W.map hd1).idxOf e], W.drop ((W.map hd1).idxOf e + 1), by simp, ?_, fun v hv e' he' q => ?_⟩
    · have h1 : hd1 W[(W.map hd1).idxOf e] = e := by
        have := List.getElem_idxOf (x := e) (xs := W.map hd1) (by simpa using hi)
        rw [List.getElem_map] at this
        exact this
      have h2 := ne W[(W.map hd1).idxOf e] (by simp)
      cases hw : W[(W.map hd1).idxOf e] with
      | nil => exact absurd hw h2
      | cons a r => rw [hw] at h1; exact ⟨r, by rw [show a = e by simpa [hd1] using h1]⟩
    · obtain ⟨j, hj, rfl⟩ := List.mem_take_iff_getElem.mp hv
      have hj1 : j < (W.map hd1).idxOf e := by lia  
      have hjW : j < W.length := by lia  
      have := hlt e' he'
      have hne := List.not_of_lt_findIdx (xs := W.map hd1) (p := (· == e')) (i := j) (show j < (W.map hd1).idxOf e' by lia  )
      have e4 : hd1 W[j] = e' := by unfold hd1; rw [q]; rfl
      have e5 : (W.map hd1)[j]'(by simpa using hjW) = e' := by simpa using e4
      rw [e5] at hne
      simp at hne
  all := by
    have split1 : ∀ w ∈ W, ∃ r, w = hd1 w :: r := fun w hw => by
      cases w with
      | nil => exact absurd rfl (ne [] hw)
      | cons z r => exact ⟨r, rfl⟩
    have inTotal : ∀ w ∈ W, w.length ≤ total W := fun w hw => by
      obtain ⟨a, b, e⟩ := List.append_of_mem hw
      unfold total; rw [e]; simp; lia  
    have key : ∀ (n : Nat) (w : List Str), w ∈ W → total W - w.length ≤ n → ∃ e ∈ esOf W, hd1 w ∈ wyOf W e := by
      intro n
      induction n with
      | zero =>
        intro w hw hn
        by_cases ht : ∃ u ∈ W, hd1 w ∈ u.tail
        · exfalso
          obtain ⟨u, hu, hz⟩ := ht
          obtain ⟨r, er⟩ := split1 w hw
          obtain ⟨p, q, e1⟩ := List.append_of_mem hz
          obtain ⟨ru, eu⟩ := split1 u hu
          have eu2 : u = (hd1 u :: p) ++ hd1 w :: q := by
            rw [eu] at e1 ⊢
            rw [List.tail_cons] at e1
            rw [e1]; rfl
          have := F w hw u hu (hd1 w) [] r _ q er eu2
          have h1 := inTotal u hu
          have h2 := congrArg List.length eu2
          have h3 := congrArg List.length er
          rw [this] at h3
          simp at h2 h3; lia  
        · have he : hd1 w ∈ esOf W := List.mem_filter.mpr ⟨ded_mem_iff.mpr (List.mem_map_of_mem hw), by
            have : (W.filter fun v => v.tail.contains (hd1 w)) = [] := by
              rw [List.filter_eq_nil_iff]
              intro u hu q
              exact ht ⟨u, hu, by simpa using q⟩
            rw [this]; rfl⟩
          obtain ⟨_, s, hs⟩ := wyOf_spec ne (List.mem_map_of_mem (f := hd1) hw)
          exact ⟨hd1 w, he, by rw [hs]; simp⟩
      | succ n ih =>
        intro w hw hn
        by_cases ht : ∃ u ∈ W, hd1 w ∈ u.tail
        · obtain ⟨u, hu, hz⟩ := ht
          obtain ⟨r, er⟩ := split1 w hw
          obtain ⟨p, q, e1⟩ := List.append_of_mem hz
          obtain ⟨ru, eu⟩ := split1 u hu
          have eu2 : u = (hd1 u :: p) ++ hd1 w :: q := by
            rw [eu] at e1 ⊢
            rw [List.tail_cons] at e1
            rw [e1]; rfl
          have h0 := F w hw u hu (hd1 w) [] r _ q er eu2
          have h2 := congrArg List.length eu2
          have h3 := congrArg List.length er
          rw [h0] at h3
          simp at h2 h3
          obtain ⟨e, he, hm⟩ := ih u hu (by lia  )
          obtain ⟨hW, s, hs⟩ := wyOf_spec ne (ded_mem (List.mem_filter.mp he).1)
          obtain ⟨a, b, e4⟩ := List.append_of_mem hm
          have := F u hu _ hW (hd1 u) [] (p ++ hd1 w :: q) a b eu2 e4
          exact ⟨e, he, by rw [e4, ← this]; simp⟩
        · have he : hd1 w ∈ esOf W := List.mem_filter.mpr ⟨ded_mem_iff.mpr (List.mem_map_of_mem hw), by
            have : (W.filter fun v => v.tail.contains (hd1 w)) = [] := by
              rw [List.filter_eq_nil_iff]
              intro u hu q
              exact ht ⟨u, hu, by simpa using q⟩
            rw [this]; rfl⟩
          obtain ⟨_, s, hs⟩ := wyOf_spec ne (List.mem_map_of_mem (f := hd1) hw)
          exact ⟨hd1 w, he, by rw [hs]; simp⟩
    intro w hw y hy
    obtain ⟨e, he, h⟩ := key _ w hw (Nat.le_refl _)
    refine ⟨e, he, ?_⟩
    obtain ⟨hW, s, hs⟩ := wyOf_spec ne (ded_mem (List.mem_filter.mp he).1)
    obtain ⟨a, b, e1⟩ := List.append_of_mem h
    obtain ⟨z, r, e2⟩ : ∃ z r, w = z :: r := by
      cases w with
      | nil => exact absurd rfl (ne [] hw)
      | cons z r => exact ⟨z, r, rfl⟩
    have e3 : hd1 w = z := by rw [e2]; rfl
    rw [e3] at e1
    have := F w hw _ hW z [] r a b e2 e1
    rw [e1, ← this]
    rw [e2] at hy
    exact List.mem_append_right _ hy
end Mine
end

section
open PySem PySem.W PyProof.Rows PySem.Calls
set_option linter.unusedVariables false
namespace Mine
noncomputable def upL (W : List (List Str)) : List Str := keepLast ((esOf W).flatMap (wyOf W))
theorem up_merge {W : List (List Str)} (F : Forest W) (ne : ∀ w ∈ W, w ≠ []) : c3V W = some (upL W) := (ends_of F ne).merge
theorem Forest.sub {W R : List (List Str)} (F : Forest W) (h : ∀ w ∈ R, w ∈ W) : Forest R := fun w1 h1 w2 h2 => F w1 (h _ h1) w2 (h _ h2)
theorem upV_fold (W : List (List Str)) (P : List Str) (R : List (List Str)) : ∀ (es acc : List Str), es.foldl (upAdd W P R) acc = acc ++ (es.filter fun e => (R.filter fun w => w.tail.contains e).isEmpty).flatMap fun e => W.getD (P.idxOf e) []
  | [], acc => by simp
  | e :: es, acc => by
    rw [List.foldl_cons, upV_fold W P R es, List.filter_cons]
    by_cases h : (R.filter fun w => w.tail.contains e).isEmpty = true
    · rw [if_pos h, List.flatMap_cons]
      unfold upAdd; rw [if_pos h, List.append_assoc]
    · rw [if_neg h]
      unfold upAdd; rw [if_neg h]
theorem way_at {W : List (List Str)} {R : List (List Str)} (F : Forest W) (ne : ∀ w ∈ W, w ≠ []) (hR : ∀ w, w ∈ R ↔ w ∈ W) {e : Str} (he : e ∈ R.map hd1) : W.getD ((W.map hd1).idxOf e) [] = wyOf R e := by
  obtain ⟨w0, hw0, e0⟩ := List.mem_map.mp he
  have heW : e ∈ W.map hd1 := List.mem_map.mpr ⟨w0, (hR w0).mp hw0, e0⟩
  have hi : (W.map hd1).idxOf e < W.length := by have := List.idxOf_lt_length_iff.mpr heW; simpa using this
  have h1 : hd1 W[(W.map hd1).idxOf e] = e := by
    have := List.getElem_idxOf (x := e) (xs := W.map hd1) (by simpa using hi)
    rw [List.getElem_map] at this
    exact this
  have hm : W[(W.map hd1).idxOf e] ∈ W := by simp
  have h2 := ne _ hm
  obtain ⟨hW, s, hs⟩ := wyOf_spec (W := R) (fun w hw => ne w ((hR w).mp hw)) he
  have hg : W.getD ((W.map hd1).idxOf e) [] = W[(W.map hd1).idxOf e] := by simp [hi]
  rw [hg]
  generalize W[(W.map hd1).idxOf e] = w at *
  cases w with
  | nil => exact absurd rfl h2
  | cons a r =>
    have ha : a = e := by simpa [hd1] using h1
    subst ha
    have := F (a :: r) hm _ ((hR _).mp hW) a [] r [] s rfl hs
    rw [hs, this]
theorem up_walk {W R : List (List Str)} (F : Forest W) (ne : ∀ w ∈ W, w ≠ []) (hR : ∀ w, w ∈ R ↔ w ∈ W) : (ded (upV W (W.map hd1) R (ded (R.map hd1))).reverse).reverse = upL R := by
  rw [ded_rev]
  unfold upL upV
  rw [upV_fold, List.nil_append]
  congr 1
  show (esOf R).flatMap _ = _
  refine congrArg List.flatten (List.map_congr_left fun e he => ?_)
  exact way_at F ne hR (ded_mem (List.mem_filter.mp he).1)
theorem ded_more {P : List Str} {r : Str} (h : r ∈ P) : ded (P ++ [r]) = ded P := by rw [ded_snoc, if_pos h]
/-- one way more of those that are there already, of a root -/
theorem upL_more {W : List (List Str)} {r : Str} (h : [r] ∈ W) : upL (W ++ [[r]]) = upL W := by
  have e1 : esOf (W ++ [[r]]) = esOf W := by
    unfold esOf
    rw [List.map_append]
    have hr : r ∈ W.map hd1 := List.mem_map.mpr ⟨[r], h, rfl⟩
    rw [show [[r]].map hd1 = [r] from rfl, ded_more hr]
    refine List.filter_congr fun e _ => ?_
    rw [List.filter_append]
    simp
  unfold upL
  rw [e1]
  congr 1
  refine congrArg List.flatten (List.map_congr_left fun e he => ?_)
  unfold wyOf
  rw [List.find?_append]
  have he' : e ∈ W.map hd1 := ded_mem (List.mem_filter.mp he).1
  cases hf : W.find? (fun w => w.head? == some e) with
  | some w => rfl
  | none =>
    cases hrr : [[r]].find? (fun w => w.head? == some e) with
    | none => rfl
    | some w =>
      have h1 := List.mem_of_find?_eq_some hrr
      have h2 := List.find?_some hrr
      rw [List.mem_singleton.mp h1] at h2
      have := List.find?_eq_none.mp hf [r] h
      exact absurd h2 this
theorem bent_fact {W : List (List Str)} (F : Forest W) (ne : ∀ w ∈ W, w ≠ []) (hW : W ≠ []) : match c3V (W ++ [(W.getLast?.getD []).reverse]) with
    | none => 1 < (W.getLast?.getD []).length
    | some b => (W.getLast?.getD []).length = 1 ∧ b = upL W := by
  have hlm : W.getLast?.getD [] ∈ W := by
    rw [List.getLast?_eq_some_getLast hW]; exact List.getLast_mem hW
  generalize W.getLast?.getD [] = w at *
  have hne := ne w hlm
  match w, hne, hlm with
  | [r], _, hlm =>
    have F' : Forest (W ++ [[r]]) := F.sub fun w hw => (List.mem_append.mp hw).elim (fun h => h) fun h => by rw [List.mem_singleton.mp h]; exact hlm
    have := up_merge F' fun w hw => (List.mem_append.mp hw).elim (fun h => ne w h) fun h => by rw [List.mem_singleton.mp h]; simp
    rw [show [r].reverse = [r] from rfl, this]
    exact ⟨rfl, upL_more hlm⟩
  | a :: b :: t, _, hlm =>
    obtain ⟨z, s, e⟩ : ∃ z s, (a :: b :: t).reverse = z :: s := by
      cases h : (a :: b :: t).reverse with
      | nil => simp at h
      | cons z s => exact ⟨z, s, rfl⟩
    have e2 : a :: b :: t = s.reverse ++ [z] := by have := congrArg List.reverse e; simpa using this
    have hzt : z ∈ (a :: b :: t).tail := by
      rw [e2]
      cases hs : s.reverse with
      | nil => rw [hs] at e2; simp at e2
      | cons q r => simp
    have has : a ∈ s := by
      cases hs : s.reverse with
      | nil => rw [hs] at e2; simp at e2
      | cons q r =>
        rw [hs] at e2
        have : a = q := (List.cons.inj e2).1
        have : a ∈ s.reverse := by rw [hs, this]; simp
        simpa using this
    have := c3_none (total (W ++ [z :: s]) + 1) (W ++ [z :: s]) [] (a :: b :: t) (z :: s) a z (List.mem_append_left _ hlm) (by simp) rfl hzt rfl has
    rw [e]
    unfold c3V
    rw [this]
    simp
end Mine
end

section
open PySem PySem.W PyProof.Rows PySem.Calls
set_option linter.unusedVariables false
namespace Mine
/-- a row's way up: the spellings of its prefixes, the longest first -/
noncomputable def wyA : List Str → List Str
  | [] => []
  | a :: q => spell (a :: q).reverse :: wyA q
noncomputable def wyR (r : List Str) : List Str := wyA r.reverse
theorem wyA_split : ∀ {q p s : List Str} {x : Str}, wyA q = p ++ x :: s → ∃ q', q' ≠ [] ∧ q' <:+ q ∧ x :: s = wyA q' ∧ x = spell q'.reverse
  | [], p, s, x, e => by cases p <;> simp [wyA] at e
  | a :: q, [], s, x, e => ⟨a :: q, by simp, List.suffix_refl _, e.symm, (List.cons.inj e).1.symm⟩
  | a :: q, b :: p, s, x, e => by
    obtain ⟨q', h1, h2, h3, h4⟩ := wyA_split (List.cons.inj e).2
    exact ⟨q', h1, h2.trans (List.suffix_cons a q), h3, h4⟩
theorem wyA_mem {x : Str} : ∀ {q : List Str}, x ∈ wyA q ↔ ∃ q', q' ≠ [] ∧ q' <:+ q ∧ x = spell q'.reverse
  | [] => by
    constructor
    · intro h; cases h
    · rintro ⟨q', h1, h2, _⟩; exact absurd (List.suffix_nil.mp h2) h1
  | a :: q => by
    show x ∈ spell (a :: q).reverse :: wyA q ↔ _
    rw [List.mem_cons, wyA_mem]
    constructor
    · rintro (h | ⟨q', h1, h2, h3⟩)
      · exact ⟨a :: q, by simp, List.suffix_refl _, h⟩
      · exact ⟨q', h1, h2.trans (List.suffix_cons a q), h3⟩
    · rintro ⟨q', h1, h2, h3⟩
      rcases List.suffix_cons_iff.mp h2 with h | h
      · subst h; exact .inl h3
      · exact .inr ⟨q', h1, h, h3⟩
theorem wyR_mem {x : Str} {r : List Str} : x ∈ wyR r ↔ ∃ n, n ≠ [] ∧ n <+: r ∧ x = spell n := by
  unfold wyR
  rw [wyA_mem]
  constructor
  · rintro ⟨q, h1, h2, h3⟩
    exact ⟨q.reverse, by simpa using h1, by have := List.reverse_prefix.mpr h2; simpa using this, h3⟩
  · rintro ⟨n, h1, h2, h3⟩
    exact ⟨n.reverse, by simpa using h1, by simpa using h2, by simpa using h3⟩
/-- rows that are spelled apart -/
structure Apart (V : List Str → Prop) : Prop where
  pre : ∀ r n, V r → n ≠ [] → n <+: r → V n
  inj : ∀ r n, V r → V n → spell r = spell n → r = n
theorem rows_forest {V : List Str → Prop} (A : Apart V) {R : List (List Str)} (h : ∀ r ∈ R, V r) : Forest (R.map wyR) := by
  intro w1 h1 w2 h2 x p1 s1 p2 s2 e1 e2
  obtain ⟨r1, hr1, rfl⟩ := List.mem_map.mp h1
  obtain ⟨r2, hr2, rfl⟩ := List.mem_map.mp h2
  obtain ⟨q1, a1, a2, a3, a4⟩ := wyA_split e1
  obtain ⟨q2, b1, b2, b3, b4⟩ := wyA_split e2
  have v1 := A.pre r1 q1.reverse (h r1 hr1) (by simpa using a1) (by have := List.reverse_prefix.mpr a2; simpa using this)
  have v2 := A.pre r2 q2.reverse (h r2 hr2) (by simpa using b1) (by have := List.reverse_prefix.mpr b2; simpa using this)
  have : q1.reverse = q2.reverse := A.inj _ _ v1 v2 (a4.symm.trans b4)
  have : q1 = q2 := by simpa using congrArg List.reverse this
  subst this
  exact (List.cons.inj (a3.trans b3.symm)).2
theorem wyR_ne {r : List Str} (h : r ≠ []) : ∃ s, wyR r = spell r :: s := by
  unfold wyR
  cases hr : r.reverse with
  | nil => exact absurd (by simpa using hr) h
  | cons a q =>
    refine ⟨wyA q, ?_⟩
    show spell (a :: q).reverse :: _ = _
    rw [← hr, List.reverse_reverse]
theorem wyR_tail {r : List Str} {x : Str} : x ∈ (wyR r).tail ↔ ∃ n, n ≠ [] ∧ n <+: r ∧ n.length < r.length ∧ x = spell n := by
  unfold wyR
  cases hr : r.reverse with
  | nil =>
    have : r = [] := by simpa using hr
    subst this
    simp [wyA]
  | cons a q =>
    have er : r = q.reverse ++ [a] := by have := congrArg List.reverse hr; simpa using this
    show x ∈ wyA q ↔ _
    rw [wyA_mem]
    constructor
    · rintro ⟨q', h1, h2, h3⟩
      have hp : q'.reverse <+: q.reverse := List.reverse_prefix.mpr h2
      refine ⟨q'.reverse, by simpa using h1, ?_, ?_, h3⟩
      · rw [er]; exact hp.trans (List.prefix_append _ _)
      · rw [er]; have := hp.length_le; simp at this ⊢; lia  
    · rintro ⟨n, h1, h2, h3, h4⟩
      refine ⟨n.reverse, by simpa using h1, ?_, by simpa using h4⟩
      have : n <+: q.reverse := by
        rw [er] at h2 h3
        refine List.prefix_of_prefix_length_le h2 (List.prefix_append _ _) ?_
        simp at h3 ⊢; lia  
      have := List.reverse_suffix.mpr this
      simpa using this
theorem keepLast_app : ∀ {a b : List Str}, a.Nodup → keepLast (a ++ b) = (a.filter fun x => !decide (x ∈ b)) ++ keepLast b
  | [], b, _ => rfl
  | x :: a, b, h => by
    obtain ⟨h1, h2⟩ := List.nodup_cons.mp h
    show (if x ∈ a ++ b then keepLast (a ++ b) else x :: keepLast (a ++ b)) = _
    rw [keepLast_app h2, List.filter_cons]
    by_cases hx : x ∈ b
    · rw [if_pos (by simp [hx]), if_neg (by simp [hx])]
    · rw [if_neg (by simp [h1, hx]), if_pos (by simp [hx])]; rfl
end Mine
end

section
open PySem PySem.W PyProof.Rows PySem.Calls
set_option linter.unusedVariables false
namespace Mine
theorem ded_rows {V : List Str → Prop} (A : Apart V) : ∀ (X : List Str) (acc : List (List Str)), (∀ r ∈ acc, V r) → (∀ x ∈ X, V (rowV x)) → (X.map fun x => spell (rowV x)).foldl dedAdd (acc.map spell) = (X.foldl rowsAdd acc).map spell
  | [], acc, _, _ => rfl
  | x :: X, acc, ha, hX => by
    have hv := hX x List.mem_cons_self
    rw [List.map_cons, List.foldl_cons, List.foldl_cons]
    have hm : spell (rowV x) ∈ acc.map spell ↔ rowV x ∈ acc := ⟨fun h => by
      obtain ⟨r, hr, e⟩ := List.mem_map.mp h
      exact A.inj r _ (ha r hr) hv e ▸ hr, List.mem_map_of_mem⟩
    by_cases h : rowV x ∈ acc
    · rw [show dedAdd (acc.map spell) (spell (rowV x)) = acc.map spell by unfold dedAdd; rw [if_pos (hm.mpr h)], show rowsAdd acc x = acc by unfold rowsAdd; rw [if_neg (by simpa using h)]]
      exact ded_rows A X acc ha fun y hy => hX y (List.mem_cons_of_mem _ hy)
    · rw [show dedAdd (acc.map spell) (spell (rowV x)) = (acc ++ [rowV x]).map spell by unfold dedAdd; rw [if_neg (fun q => h (hm.mp q))]; simp, show rowsAdd acc x = acc ++ [rowV x] by unfold rowsAdd; rw [if_pos (by simpa using h)]]
      refine ded_rows A X _ (fun r hr => ?_) fun y hy => hX y (List.mem_cons_of_mem _ hy)
      rcases List.mem_append.mp hr with hr | hr
      · exact ha r hr
      · rw [List.mem_singleton.mp hr]; exact hv
theorem rowsV_has {X : List Str} {x : Str} (h : x ∈ X) : rowV x ∈ rowsV X := by
  have : ∀ (l : List Str) (acc : List (List Str)), rowV x ∈ acc ∨ x ∈ l → rowV x ∈ l.foldl rowsAdd acc := by
    intro l; induction l with
    | nil => intro acc h; exact h.elim (fun h => h) fun h => nomatch h
    | cons a r ih =>
      intro acc h
      refine ih _ ?_
      rcases h with h | h
      · left; unfold rowsAdd; split
        · exact List.mem_append_left _ h
        · exact h
      · rcases List.mem_cons.mp h with h | h
        · subst h; left; unfold rowsAdd; split
          · simp
          · rename_i q; simpa using q
        · exact .inr h
  exact this X [] (.inr h)
theorem below_iff {r one : List Str} : below r one = true ↔ r <+: one ∧ r.length < one.length := by
  unfold below
  rw [Bool.and_eq_true, decide_eq_true_iff, beq_iff_eq]
  constructor
  · rintro ⟨h1, h2⟩; exact ⟨by rw [← h2]; exact List.take_prefix _ _, h1⟩
  · rintro ⟨h1, h2⟩; exact ⟨h2, (List.prefix_iff_eq_take.mp h1).symm⟩
section
variable {V : List Str → Prop}
theorem hd1_wyR {r : List Str} (h : r ≠ []) : hd1 (wyR r) = spell r := by
  obtain ⟨s, e⟩ := wyR_ne h
  rw [e]; rfl
theorem esOf_rows (A : Apart V) {X : List Str} (hV : ∀ x ∈ X, V (rowV x) ∧ rowV x ≠ []) : esOf (X.map fun x => wyR (rowV x)) = (endsV (rowsV X)).map spell := by
  have hrv : ∀ r ∈ rowsV X, V r ∧ r ≠ [] := fun r hr => by
    obtain ⟨x, hx, rfl⟩ := rowsV_mem hr
    exact hV x hx
  have e1 : (X.map fun x => wyR (rowV x)).map hd1 = X.map fun x => spell (rowV x) := by
    rw [List.map_map]
    exact List.map_congr_left fun x hx => hd1_wyR (hV x hx).2
  have e2 : ded (X.map fun x => spell (rowV x)) = (rowsV X).map spell := by
    have := ded_rows A X [] (fun r h => nomatch h) fun x hx => (hV x hx).1
    simpa [ded, rowsV] using this
  unfold esOf endsV
  rw [e1, e2, List.filter_map]
  congr 1
  refine List.filter_congr fun r hr => ?_
  obtain ⟨hv, hne⟩ := hrv r hr
  show ((X.map fun x => wyR (rowV x)).filter fun w => w.tail.contains (spell r)).isEmpty = _
  have key : (∃ w ∈ X.map fun x => wyR (rowV x), spell r ∈ w.tail) ↔ ∃ one ∈ rowsV X, below r one = true := by
    constructor
    · rintro ⟨w, hw, h⟩
      obtain ⟨x, hx, rfl⟩ := List.mem_map.mp hw
      obtain ⟨n, h1, h2, h3, h4⟩ := wyR_tail.mp h
      have := A.inj r n hv (A.pre _ n (hV x hx).1 h1 h2) h4
      subst this
      exact ⟨rowV x, rowsV_has hx, below_iff.mpr ⟨h2, h3⟩⟩
    · rintro ⟨one, ho, h⟩
      obtain ⟨x, hx, rfl⟩ := rowsV_mem ho
      obtain ⟨h2, h3⟩ := below_iff.mp h
      exact ⟨wyR (rowV x), List.mem_map_of_mem (f := fun x => wyR (rowV x)) hx, wyR_tail.mpr ⟨r, hne, h2, h3, rfl⟩⟩
  have b1 : ((X.map fun x => wyR (rowV x)).filter fun w => w.tail.contains (spell r)).isEmpty = true ↔ ¬ ∃ w ∈ X.map fun x => wyR (rowV x), spell r ∈ w.tail := by
    rw [List.isEmpty_iff, List.filter_eq_nil_iff]
    constructor
    · rintro h ⟨w, hw, q⟩; exact h w hw (by simpa using q)
    · intro h w hw q; exact h ⟨w, hw, by simpa using q⟩
  have b2 : ((rowsV X).filter (below r)).isEmpty = true ↔ ¬ ∃ one ∈ rowsV X, below r one = true := by
    rw [List.isEmpty_iff, List.filter_eq_nil_iff]
    constructor
    · rintro h ⟨w, hw, q⟩; exact h w hw q
    · intro h w hw q; exact h ⟨w, hw, q⟩
  exact Bool.eq_iff_iff.mpr (b1.trans ((not_congr key).trans b2.symm))
theorem wyOf_rows (A : Apart V) {X : List Str} (hV : ∀ x ∈ X, V (rowV x) ∧ rowV x ≠ []) {r : List Str} (hr : r ∈ rowsV X) : wyOf (X.map fun x => wyR (rowV x)) (spell r) = wyR r := by
  obtain ⟨x, hx, rfl⟩ := rowsV_mem hr
  have F : Forest ((X.map rowV).map wyR) := rows_forest A fun r hr => by
    obtain ⟨y, hy, rfl⟩ := List.mem_map.mp hr
    exact (hV y hy).1
  have eW : (X.map rowV).map wyR = X.map fun x => wyR (rowV x) := by rw [List.map_map]; rfl
  rw [eW] at F
  have hm : wyR (rowV x) ∈ X.map fun x => wyR (rowV x) := List.mem_map_of_mem (f := fun x => wyR (rowV x)) hx
  obtain ⟨hW, s, hs⟩ := wyOf_spec (W := X.map fun x => wyR (rowV x)) (fun w hw => by
    obtain ⟨y, hy, rfl⟩ := List.mem_map.mp hw
    obtain ⟨s, e⟩ := wyR_ne (hV y hy).2
    rw [e]; simp) (e := spell (rowV x)) (List.mem_map.mpr ⟨_, hm, hd1_wyR (hV x hx).2⟩)
  obtain ⟨s2, e2⟩ := wyR_ne (hV x hx).2
  have := F _ hW _ hm (spell (rowV x)) [] s [] s2 hs e2
  rw [hs, e2, this]
theorem upL_rows (A : Apart V) {X : List Str} (hV : ∀ x ∈ X, V (rowV x) ∧ rowV x ≠ []) : upL (X.map fun x => wyR (rowV x)) = keepLast ((endsV (rowsV X)).flatMap wyR) := by
  unfold upL
  rw [esOf_rows A hV]
  congr 1
  rw [List.flatMap_map]
  refine congrArg List.flatten (List.map_congr_left fun r hr => ?_)
  exact wyOf_rows A hV (List.mem_filter.mp hr).1
end
end Mine
end

section
open PySem PySem.W PyProof.Rows PySem.Calls
set_option linter.unusedVariables false
namespace Mine
theorem wyA_eq : ∀ q : List Str, wyA q = ((List.range q.length).map fun j => spell (q.reverse.take (j + 1))).reverse
  | [] => rfl
  | a :: q => by
    rw [List.length_cons, List.range_succ, List.map_append, List.reverse_append]
    show spell (a :: q).reverse :: wyA q = _
    rw [wyA_eq q]
    have e1 : (a :: q).reverse.take (q.length + 1) = (a :: q).reverse := List.take_of_length_le (by simp)
    have e2 : (List.range q.length).map (fun j => spell (q.reverse.take (j + 1))) = (List.range q.length).map fun j => spell ((a :: q).reverse.take (j + 1)) := by
      refine List.map_congr_left fun j hj => ?_
      have : j < q.length := by simpa using hj
      rw [List.reverse_cons, List.take_append_of_le_length (by simp; lia  )]
    rw [e2]
    simp only [List.map_cons, List.map_nil, List.reverse_cons, List.reverse_nil, List.nil_append, List.singleton_append]
    rw [show (q.reverse ++ [a]).take (q.length + 1) = q.reverse ++ [a] by rw [← List.reverse_cons]; exact e1]
theorem wyR_eq (r : List Str) : wyR r = ((List.range r.length).map fun j => spell (r.take (j + 1))).reverse := by
  unfold wyR; rw [wyA_eq]; simp
noncomputable def ysOf (ends : List (List Str)) : List T3 := (List.range ends.length).flatMap fun k => (dueAt ends k).reverse
theorem perm_flat {f : Nat → List T3} : ∀ l : List Nat, (l.flatMap fun k => (f k).reverse).Perm (l.flatMap f)
  | [] => .refl _
  | a :: l => by rw [List.flatMap_cons, List.flatMap_cons]; exact (List.reverse_perm _).append (perm_flat l)
theorem ysOf_perm (ends : List (List Str)) : (ysOf ends).Perm (dueL ends) := perm_flat _
theorem dueAtN_mem {ends : List (List Str)} {k j : Nat} {y : T3} (h : y ∈ dueAtN ends k j) : y.1 = (k : Int) ∧ ∃ i, i < j ∧ y.2.1 = -((i + 1 : Nat) : Int) := by
  unfold dueAtN at h
  obtain ⟨i, hi, hy⟩ := List.mem_flatMap.mp h
  unfold dueOne at hy
  split at hy
  · rw [List.mem_singleton.mp hy]; exact ⟨rfl, i, by simpa using hi, rfl⟩
  · cases hy
theorem dueAtN_pw (ends : List (List Str)) (k : Nat) : ∀ j, (dueAtN ends k j).Pairwise fun a b => lex b a
  | 0 => .nil
  | j + 1 => by
    rw [dueAtN_succ, List.pairwise_append]
    refine ⟨dueAtN_pw ends k j, ?_, fun a ha b hb => ?_⟩
    · unfold dueOne; split
      · exact List.pairwise_singleton _ _
      · exact .nil
    · obtain ⟨h1, i, hi, h2⟩ := dueAtN_mem ha
      unfold dueOne at hb
      split at hb
      · rw [List.mem_singleton.mp hb]
        right
        exact ⟨h1.symm, by rw [h2]; show -((j + 1 : Nat) : Int) < _; lia  ⟩
      · cases hb
theorem ysOf_pw (ends : List (List Str)) : (ysOf ends).Pairwise lex := by
  have : ∀ n, ((List.range n).flatMap fun k => (dueAt ends k).reverse).Pairwise lex := by
    intro n
    induction n with
    | zero => exact .nil
    | succ n ih =>
      rw [List.range_succ, List.flatMap_append, List.pairwise_append]
      refine ⟨ih, ?_, fun a ha b hb => ?_⟩
      · simp only [List.flatMap_cons, List.flatMap_nil, List.append_nil]
        rw [List.pairwise_reverse]; exact dueAtN_pw _ _ _
      · obtain ⟨k, hk, ha⟩ := List.mem_flatMap.mp ha
        have hk : k < n := by simpa using hk
        simp only [List.flatMap_cons, List.flatMap_nil, List.append_nil, List.mem_reverse] at hb
        have h1 := (dueAtN_mem (List.mem_reverse.mp ha)).1
        have h2 := (dueAtN_mem hb).1
        left; rw [h1, h2]; lia  
  exact this _
theorem nodup_of_split : ∀ {w : List Str}, (∀ p x s, w = p ++ x :: s → x ∉ s) → w.Nodup
  | [], _ => .nil
  | a :: w, h => List.nodup_cons.mpr ⟨h [] a w rfl, nodup_of_split fun p x s e => h (a :: p) x s (by rw [e]; rfl)⟩
theorem filter_flat {P : Str → Bool} {f : Nat → Str} : ∀ l : List Nat, (l.map f).filter P = l.flatMap fun j => if P (f j) = true then [f j] else []
  | [] => rfl
  | a :: l => by
    rw [List.map_cons, List.filter_cons, List.flatMap_cons, filter_flat l]
    split <;> rfl
section
variable {V : List Str → Prop}
theorem wyR_nodup (A : Apart V) {r : List Str} (h : V r) : (wyR r).Nodup :=
  nodup_of_split fun p x s e => (rows_forest A (R := [r]) fun q hq => by rw [List.mem_singleton.mp hq]; exact h).once (w := wyR r) (by simp) e
theorem dueAt_spelled (A : Apart V) {ends : List (List Str)} (hV : ∀ r ∈ ends, V r) {k : Nat} (hk : k < ends.length) :
    ((dueAt ends k).reverse).map (·.2.2) = (wyR ends[k]).filter fun x => !decide (x ∈ (ends.drop (k + 1)).flatMap wyR) := by
  have gk : ends.getD k [] = ends[k] := by simp [hk]
  have hvk := hV ends[k] (by simp)
  rw [wyR_eq, List.filter_reverse, List.map_reverse]
  congr 1
  rw [filter_flat]
  unfold dueAt dueAtN
  rw [gk, List.map_flatMap]
  refine congrArg List.flatten (List.map_congr_left fun j hj => ?_)
  have hj : j < ends[k].length := by simpa using hj
  have hnl : (ends[k].take (j + 1)).length = j + 1 := by rw [List.length_take]; lia  
  have hnn : ends[k].take (j + 1) ≠ [] := by intro q; rw [q] at hnl; simp at hnl
  have hvn := A.pre _ _ hvk hnn (List.take_prefix _ _)
  unfold dueOne
  rw [gk]
  have key : ((ends.drop (k + 1)).filter fun one => one.take (j + 1) == ends[k].take (j + 1)).isEmpty = !decide (spell (ends[k].take (j + 1)) ∈ (ends.drop (k + 1)).flatMap wyR) := by
    apply Bool.eq_iff_iff.mpr
    rw [List.isEmpty_iff, List.filter_eq_nil_iff, Bool.not_eq_true', decide_eq_false_iff_not, List.mem_flatMap]
    constructor
    · rintro h ⟨one, ho, q⟩
      obtain ⟨n, h1, h2, h3⟩ := wyR_mem.mp q
      have := A.inj _ _ hvn (A.pre one n (hV one (List.mem_of_mem_drop ho)) h1 h2) h3
      refine h one ho ?_
      rw [← this] at h2
      have := List.prefix_iff_eq_take.mp h2
      rw [hnl] at this
      simpa using this.symm
    · intro h one ho q
      have q : one.take (j + 1) = ends[k].take (j + 1) := by simpa using q
      exact h ⟨one, ho, wyR_mem.mpr ⟨_, hnn, by rw [← q]; exact List.take_prefix _ _, rfl⟩⟩
  rw [key]
  split <;> rfl
theorem due_up (A : Apart V) {ends : List (List Str)} (hV : ∀ r ∈ ends, V r) : (ysOf ends).map (·.2.2) = keepLast (ends.flatMap wyR) := by
  have : ∀ m k, k + m = ends.length → ((List.range' k m).flatMap fun k => (dueAt ends k).reverse).map (·.2.2) = keepLast ((ends.drop k).flatMap wyR) := by
    intro m
    induction m with
    | zero =>
      intro k hk
      have : ends.drop k = [] := by rw [List.drop_eq_nil_iff]; lia  
      rw [this]; rfl
    | succ m ih =>
      intro k hk
      have hk' : k < ends.length := by lia  
      have hd : ends.drop k = ends[k] :: ends.drop (k + 1) := by simp
      rw [hd, List.flatMap_cons, keepLast_app (wyR_nodup A (hV ends[k] (by simp))), List.range'_succ, List.flatMap_cons, List.map_append, dueAt_spelled A hV hk', ih (k + 1) (by lia  )]
  have h := this ends.length 0 (by lia  )
  rw [List.drop_zero] at h
  unfold ysOf
  rw [List.range_eq_range']
  exact h
end
end Mine
end

section
open PySem PySem.W PyProof.Rows PySem.Calls
open PySem.Builtin PySem.Builtin.Str
set_option linter.unusedVariables false
set_option maxRecDepth 100000
namespace Mine
/-- the signs of a text -/
noncomputable abbrev cl (x : Str) : List Nat := x.cps.toList
theorem cl_app (a b : Str) : cl (a ++ b) = cl a ++ cl b := by show (a.cps ++ b.cps).toList = _; simp
theorem cl_inj {a b : Str} (h : cl a = cl b) : a = b := by
  have := congrArg T h
  rwa [T_self, T_self] at this
theorem cl_slash : cl slash = [47] := by decide
theorem cl_len (x : Str) : (cl x).length = x.length := by simp [Str.length]
/-- no slash in it -/
noncomputable def Fr (x : Str) : Prop := 47 ∉ cl x
theorem cut47 {a b r s : List Nat} (ha : 47 ∉ a) (hb : 47 ∉ b) (h : a ++ 47 :: r = b ++ 47 :: s) : a = b ∧ r = s := by
  induction a generalizing b with
  | nil => cases b with
    | nil => simpa using h
    | cons y b => simp at h hb; exact absurd h.1 hb.1
  | cons x a ih => cases b with
    | nil => simp at h ha; exact absurd h.1.symm ha.1
    | cons y b =>
      simp only [List.cons_append, List.cons.injEq] at h
      obtain ⟨e, h⟩ := h
      obtain ⟨h1, h2⟩ := ih (fun q => ha (List.mem_cons_of_mem _ q)) (fun q => hb (List.mem_cons_of_mem _ q)) h
      exact ⟨by rw [e, h1], h2⟩
theorem join_two (sep a b : Str) (r : List Str) : Str.join sep (a :: b :: r) = a ++ sep ++ Str.join sep (b :: r) := rfl
theorem join_uniq : ∀ {a b : List Str}, (∀ p ∈ a, Fr p) → (∀ p ∈ b, Fr p) → a ≠ [] → b ≠ [] → Str.join slash a = Str.join slash b → a = b
  | [], _, _, _, h, _, _ => absurd rfl h
  | _, [], _, _, _, h, _ => absurd rfl h
  | [x], [y], _, _, _, _, h => by rw [show x = y from h]
  | [x], y :: z :: r, ha, _, _, _, h => by
    have h : x = _ := h
    rw [join_two] at h
    exact absurd (by rw [h, cl_app, cl_app, cl_slash]; simp) (ha x (by simp))
  | x :: z :: r, [y], _, hb, _, _, h => by
    have h : _ = y := h
    rw [join_two] at h
    exact absurd (by rw [← h, cl_app, cl_app, cl_slash]; simp) (hb y (by simp))
  | x :: z :: r, y :: z2 :: r2, ha, hb, _, _, h => by
    rw [join_two, join_two] at h
    have h := congrArg cl h
    rw [cl_app, cl_app, cl_app, cl_app, cl_slash, List.append_assoc, List.append_assoc] at h
    obtain ⟨h1, h2⟩ := cut47 (ha x (by simp)) (hb y (by simp)) h
    have := join_uniq (a := z :: r) (b := z2 :: r2) (fun p hp => ha p (List.mem_cons_of_mem _ hp)) (fun p hp => hb p (List.mem_cons_of_mem _ hp)) (by simp) (by simp) (cl_inj h2)
    rw [cl_inj h1, this]
end Mine
end

section
open PySem PySem.W PyProof.Rows PySem.Calls
open PySem.Builtin PySem.Builtin.Str
set_option linter.unusedVariables false
set_option maxRecDepth 100000
namespace Mine
theorem slash_mk : slash = ⟨#[47]⟩ := by decide
theorem sp_free {x p : Str} (h : p ∈ Txt.split x slash) : Fr p := by
  rw [slash_mk] at h
  exact StrLaws.split_free x 47 p h
theorem sp_join (x : Str) : Str.join slash (Txt.split x slash) = x := StrLaws.join_split x slash
theorem sp_ne (x : Str) : Txt.split x slash ≠ [] := by
  unfold Txt.split
  split
  · simp
  · split
    · simp
    · rw [StrLaws.partsBetween_eq]
      obtain ⟨p, r, e⟩ := StrLaws.partsFrom_ne x slash.length 0 (occurrences x slash 0 x.length (x.length + 1))
      rw [e]; simp
theorem fr_empty : Fr "" := by unfold Fr; decide
theorem emp_app (a : Str) : ("" : Str) ++ a = a := cl_inj (by rw [cl_app]; rfl)
theorem sp_slash (r : Str) : Txt.split (slash ++ r) slash = ("" : Str) :: Txt.split r slash := by
  refine join_uniq (fun p hp => sp_free hp) (fun p hp => ?_) (sp_ne _) (by simp) ?_
  · rcases List.mem_cons.mp hp with h | h
    · rw [h]; exact fr_empty
    · exact sp_free h
  · rw [sp_join]
    obtain ⟨a, s, e⟩ := List.exists_cons_of_ne_nil (sp_ne r)
    have h := sp_join r
    rw [e] at h ⊢
    rw [join_two, h, emp_app]
theorem root_two : ("//" : Str) = slash ++ slash := by decide
theorem sp_two (r : Str) : Txt.split (("//" : Str) ++ r) slash = ("" : Str) :: ("" : Str) :: Txt.split r slash := by
  rw [root_two, show slash ++ slash ++ r = slash ++ (slash ++ r) from cl_inj (by simp only [cl_app, List.append_assoc]), sp_slash, sp_slash]
/-- the names of a row -/
noncomputable def Nm (p : Str) : Prop := Fr p ∧ p ≠ "" ∧ p ≠ "." ∧ p ≠ ".."
theorem rowStep_emp (row : List Str) : rowStep row "" = row := by
  unfold rowStep
  rw [if_neg (by decide), if_neg (by decide)]
theorem lock {ini : Str} (hi : ini.length ≠ 0) : ∀ (cs new : List Str), (∀ p ∈ cs, Fr p) → (∀ p ∈ new, Nm p) →
    cs.foldl rowStep (ini :: new) = ini :: cs.foldl (npStep ini) new ∧ ∀ p ∈ cs.foldl (npStep ini) new, Nm p
  | [], new, _, h => ⟨rfl, h⟩
  | c :: cs, new, hc, h => by
    have key : rowStep (ini :: new) c = ini :: npStep ini new c ∧ ∀ p ∈ npStep ini new c, Nm p := by
      unfold rowStep npStep
      by_cases h1 : c = ""
      · subst h1
        rw [if_neg (by decide), if_neg (by decide), if_pos (by decide)]
        exact ⟨rfl, h⟩
      · have hl : c.length ≠ 0 := fun q => h1 (cl_inj (by
          have := List.length_eq_zero_iff.mp ((cl_len c).trans q)
          rw [this]; decide))
        by_cases h2 : c = "."
        · subst h2
          rw [if_neg (by decide), if_neg (by decide), if_pos (by decide)]
          exact ⟨rfl, h⟩
        · have hN : ¬ ((!decide (c.length ≠ 0)) || c == ".") = true := by simp [hl, h2]
          rw [if_neg hN]
          by_cases h3 : c = ".."
          · subst h3
            rw [if_pos (by decide), if_neg]
            · refine ⟨?_, fun p hp => h p (List.dropLast_subset _ hp)⟩
              cases new with
              | nil => rfl
              | cons a r =>
                show List.take (max 1 ((ini :: a :: r).length - 1)) (ini :: a :: r) = _
                rw [List.dropLast_eq_take]
                simp only [List.length_cons, Nat.add_sub_cancel]
                rw [Nat.max_eq_right (by lia  )]
                rfl
            · intro q
              simp [hi] at q
              obtain ⟨q1, q2⟩ := q
              have hm : new.getLast? = some ".." := by
                cases hg : new.getLast? with
                | none => exact absurd (List.getLast?_eq_none_iff.mp hg) q1
                | some z => rw [hg] at q2; simpa using q2
              exact (h _ (List.mem_of_getLast? hm)).2.2.2 rfl
          · rw [if_neg (by simpa using h3), if_pos (by simp [h1, h2]), if_pos (by simp [h3])]
            refine ⟨rfl, fun p hp => ?_⟩
            rcases List.mem_append.mp hp with hp | hp
            · exact h p hp
            · rw [List.mem_singleton.mp hp]; exact ⟨hc c (by simp), h1, h2, h3⟩
    rw [List.foldl_cons, List.foldl_cons, key.1]
    exact lock hi cs _ (fun p hp => hc p (List.mem_cons_of_mem _ hp)) key.2
end Mine
end

section
open PySem PySem.W PyProof.Rows PySem.Calls
open PySem.Builtin PySem.Builtin.Str
set_option linter.unusedVariables false
set_option maxRecDepth 100000
namespace Mine
noncomputable def Ini (i : Str) : Prop := i = "/" ∨ i = "//"
/-- a text of the law: a root, then something that opens with no slash -/
noncomputable def GoodT (x : Str) : Prop := ∃ ini rst c t, x = ini ++ rst ∧ Ini ini ∧ cl rst = c :: t ∧ c ≠ 47
theorem cut_cl {x : Str} {l : List Nat} (h : cl x = l) (lo hi : Option Nat) : cut x lo hi = T ((l.drop (cutLo l.length lo)).take (cutHi l.length hi - cutLo l.length lo)) := by
  unfold cut
  have h : x.cps.toList = l := h
  subst h
  rw [cl_len]
theorem T_cl (l : List Nat) : cl (T l) = l := by simp
theorem cl_two : cl "//" = [47, 47] := by decide
theorem ini_len {i : Str} (h : Ini i) : i.length ≠ 0 ∧ i.length ≤ 2 := by rcases h with h | h <;> subst h <;> decide
theorem sr_good {ini rst : Str} {c : Nat} {t : List Nat} (hi : Ini ini) (hr : cl rst = c :: t) (hc : c ≠ 47) :
    srV (ini ++ rst) = [.str "", .str ini, .str rst] ∧ rootV (ini ++ rst) = ini := by
  rcases hi with h | h
  · subst h
    have e : cl (("/" : Str) ++ rst) = 47 :: c :: t := by rw [cl_app, hr]; rfl
    have c1 : cut (("/" : Str) ++ rst) none (some 1) = slash := cl_inj (by rw [cut_cl e, T_cl]; simp [cutLo, cutHi, cl_slash])
    have c2 : cut (("/" : Str) ++ rst) (some 1) (some 2) = T [c] := cl_inj (by rw [cut_cl e, T_cl]; simp [cutLo, cutHi])
    have c3 : cut (("/" : Str) ++ rst) (some 1) none = rst := cl_inj (by rw [cut_cl e, T_cl, hr]; simp [cutLo, cutHi])
    have c4 : cut (("/" : Str) ++ rst) none (some 2) = T [47, c] := cl_inj (by rw [cut_cl e, T_cl]; simp [cutLo, cutHi])
    have n1 : ¬ (!(slash == slash)) = true := by simp
    have n2 : (T [c] == slash) = false := beq_eq_false_iff_ne.mpr fun q => by
      have := congrArg cl q; rw [T_cl, cl_slash] at this; simp at this; exact hc this
    have n3 : ¬ (T [47, c] == ("//" : Str)) = true := fun q => by
      have := congrArg cl (eq_of_beq q); rw [T_cl, cl_two] at this; simp at this; exact hc this
    refine ⟨?_, ?_⟩
    · unfold srV
      rw [c1, if_neg n1, c2, n2, if_pos (by simp), c3]
    · unfold rootV
      rw [c4, if_neg n3]
  · subst h
    have e : cl (("//" : Str) ++ rst) = 47 :: 47 :: c :: t := by rw [cl_app, hr]; rfl
    have c1 : cut (("//" : Str) ++ rst) none (some 1) = slash := cl_inj (by rw [cut_cl e, T_cl]; simp [cutLo, cutHi, cl_slash])
    have c2 : cut (("//" : Str) ++ rst) (some 1) (some 2) = slash := cl_inj (by rw [cut_cl e, T_cl]; simp [cutLo, cutHi, cl_slash])
    have c3 : cut (("//" : Str) ++ rst) (some 2) (some 3) = T [c] := cl_inj (by rw [cut_cl e, T_cl]; simp [cutLo, cutHi])
    have c4 : cut (("//" : Str) ++ rst) none (some 2) = ("//" : Str) := cl_inj (by rw [cut_cl e, T_cl, cl_two]; simp [cutLo, cutHi])
    have c5 : cut (("//" : Str) ++ rst) (some 2) none = rst := cl_inj (by rw [cut_cl e, T_cl, hr]; simp [cutLo, cutHi])
    have n2 : (T [c] == slash) = false := beq_eq_false_iff_ne.mpr fun q => by
      have := congrArg cl q; rw [T_cl, cl_slash] at this; simp at this; exact hc this
    refine ⟨?_, ?_⟩
    · unfold srV
      rw [c1, c2, c3, n2, if_neg (by simp), if_neg (by simp), c4, c5]
    · unfold rootV
      rw [c4, if_pos (by simp)]
theorem sp_good {ini rst : Str} (hi : Ini ini) (acc : List Str) : (Txt.split (ini ++ rst) slash).foldl rowStep acc = (Txt.split rst slash).foldl rowStep acc := by
  rcases hi with h | h
  · subst h
    rw [sp_slash, List.foldl_cons, rowStep_emp]
  · subst h
    rw [sp_two, List.foldl_cons, List.foldl_cons, rowStep_emp, rowStep_emp]
theorem row_good {ini rst : Str} {c : Nat} {t : List Nat} (hi : Ini ini) (hr : cl rst = c :: t) (hc : c ≠ 47) :
    rowV (ini ++ rst) = ini :: npAll ini (Txt.split rst slash) ∧ ∀ p ∈ npAll ini (Txt.split rst slash), Nm p := by
  have h := lock (ini_len hi).1 (Txt.split rst slash) [] (fun p hp => sp_free hp) (fun p hp => nomatch hp)
  refine ⟨?_, h.2⟩
  unfold rowV
  rw [(sr_good hi hr hc).2, sp_good hi, h.1]; rfl
/-- rows with a root and sound names -/
noncomputable def VR (r : List Str) : Prop := ∃ i n, r = i :: n ∧ Ini i ∧ ∀ p ∈ n, Nm p
theorem row_VR {x : Str} (h : GoodT x) : VR (rowV x) := by
  obtain ⟨ini, rst, c, t, rfl, hi, hr, hc⟩ := h
  obtain ⟨h1, h2⟩ := row_good hi hr hc
  exact ⟨ini, _, h1, hi, h2⟩
theorem nm_open {a : Str} (h : Nm a) : ∃ c t, cl a = c :: t ∧ c ≠ 47 := by
  cases e : cl a with
  | nil => exact absurd (cl_inj (e.trans (by decide))) h.2.1
  | cons c t => exact ⟨c, t, rfl, fun q => h.1 (by rw [e, q]; simp)⟩
theorem join_open {n : List Str} (h : ∀ p ∈ n, Nm p) (hn : n ≠ []) : ∃ c t, cl (Str.join slash n) = c :: t ∧ c ≠ 47 := by
  cases n with
  | nil => exact absurd rfl hn
  | cons a r =>
    obtain ⟨c, t, e, hc⟩ := nm_open (h a (by simp))
    cases r with
    | nil => exact ⟨c, t, e, hc⟩
    | cons b r => exact ⟨c, t ++ cl (slash ++ Str.join slash (b :: r)), by rw [join_two, cl_app, cl_app, cl_app, e]; simp, hc⟩
theorem names_inj {n m : List Str} (h1 : ∀ p ∈ n, Nm p) (h2 : ∀ p ∈ m, Nm p) (h : Str.join slash n = Str.join slash m) : n = m := by
  by_cases a : n = []
  · by_cases b : m = []
    · rw [a, b]
    · obtain ⟨c, t, e, _⟩ := join_open h2 b
      rw [← h, a] at e; cases e
  · by_cases b : m = []
    · obtain ⟨c, t, e, _⟩ := join_open h1 a
      rw [h, b] at e; cases e
    · exact join_uniq (fun p hp => (h1 p hp).1) (fun p hp => (h2 p hp).1) a b h
theorem one_two {n m : List Str} (h1 : ∀ p ∈ n, Nm p) (h : ("/" : Str) ++ Str.join slash n = ("//" : Str) ++ Str.join slash m) : False := by
  have h := congrArg cl h
  rw [cl_app, cl_app, cl_two, show cl "/" = [47] from cl_slash] at h
  have h : cl (Str.join slash n) = 47 :: cl (Str.join slash m) := by simpa using h
  by_cases a : n = []
  · rw [a] at h; cases h
  · obtain ⟨c, t, e, hc⟩ := join_open h1 a
    rw [e] at h; exact hc (List.cons.inj h).1
theorem VR_apart : Apart VR where
  pre r n hv hn hp := by
    obtain ⟨i, m, rfl, hi, hm⟩ := hv
    cases n with
    | nil => exact absurd rfl hn
    | cons a n =>
      obtain ⟨e, hq⟩ := List.cons_prefix_cons.mp hp
      exact ⟨a, n, rfl, e ▸ hi, fun p q => hm p (hq.subset q)⟩
  inj r n hv hw h := by
    obtain ⟨i, r, rfl, hi, hr⟩ := hv
    obtain ⟨j, n, rfl, hj, hn⟩ := hw
    have h : i ++ Str.join slash r = j ++ Str.join slash n := h
    rcases hi with rfl | rfl <;> rcases hj with rfl | rfl
    · have h := congrArg cl h
      rw [cl_app, cl_app, List.append_cancel_left_eq] at h
      rw [names_inj hr hn (cl_inj h)]
    · exact (one_two hr h).elim
    · exact (one_two hn h.symm).elim
    · have h := congrArg cl h
      rw [cl_app, cl_app, List.append_cancel_left_eq] at h
      rw [names_inj hr hn (cl_inj h)]
end Mine
end

section
open PySem PySem.W PyProof.Rows PySem.Calls
open PySem.Builtin PySem.Builtin.Str
set_option linter.unusedVariables false
set_option maxRecDepth 100000
namespace Mine
theorem dir_ini {i : Str} (h : Ini i) : dirV i = i := by rcases h with h | h <;> subst h <;> decide +kernel
theorem at_iff (x : Str) (i : Nat) : StrLaws.At x slash x.length i ↔ (cl x)[i]? = some 47 := by
  rw [slash_mk]; exact StrLaws.subAt_one x 47 i
theorem rf_eq {x : Str} {a p : List Nat} (h : cl x = a ++ 47 :: p) (hp : 47 ∉ p) : rfV x = a.length + 1 := by
  have hat : StrLaws.At x slash x.length a.length := (at_iff x _).mpr (by rw [h]; simp)
  have hno : ∀ k, a.length < k → ¬ StrLaws.At x slash x.length k := fun k hk q => by
    have q := (at_iff x k).mp q
    rw [h, List.getElem?_append_right (by lia  )] at q
    obtain ⟨j, hj⟩ : ∃ j, k - a.length = j + 1 := ⟨k - a.length - 1, by lia  ⟩
    rw [hj, List.getElem?_cons_succ] at q
    exact hp (List.mem_of_getElem? q)
  rcases StrLaws.last_spec x slash with ⟨_, h2⟩ | ⟨i, h1, h2, h3⟩
  · exact absurd hat (h2 _)
  · have : i = a.length := by
      rcases Nat.lt_trichotomy i a.length with q | q | q
      · exact absurd hat (h3 _ q)
      · exact q
      · exact absurd h2 (hno _ q)
    unfold rfV; rw [h1, this]
theorem head_eq {x : Str} {a p : List Nat} (h : cl x = a ++ 47 :: p) (hp : 47 ∉ p) : headV x = T (a ++ [47]) := by
  unfold headV
  rw [rf_eq h hp]
  have h : x.cps.toList = a ++ 47 :: p := h
  rw [h, List.take_append]
  simp [List.take_of_length_le]
theorem strip_one {a : List Nat} {c : Nat} {b : List Nat} (ha : a = b ++ [c]) (hc : c ≠ 47) : Txt.rstripChars (T (a ++ [47])) slash = T a := by
  unfold Txt.rstripChars
  rw [PyProof.Rows.stripBy_eq]
  apply cl_inj
  have e : stripLo slash.cps.contains false (T (a ++ [47])) = 0 := by simp [stripLo]
  rw [e, show cl (strSub (T (a ++ [47])) 0 (stripHi slash.cps.contains true (T (a ++ [47])) 0)) = _ from StrLaws.strSub_toList _ _ _]
  have e2 : stripHi slash.cps.contains true (T (a ++ [47])) 0 = a.length := by
    subst ha
    simp [stripHi, List.takeWhile_cons, Str.length, hc, slash_mk]
  rw [e2]
  simp
theorem rep_all {n : Nat} : ∀ c ∈ cl (repV n), c = 47 := by
  have : ∀ (l : List (Array Nat)) (acc : Array Nat), (∀ y ∈ l, ∀ c ∈ y.toList, c = 47) → (∀ c ∈ acc.toList, c = 47) → ∀ c ∈ (l.foldl (· ++ ·) acc).toList, c = 47 := by
    intro l; induction l with
    | nil => intro acc _ h; exact h
    | cons y r ih =>
      intro acc hy h
      refine ih _ (fun z hz => hy z (List.mem_cons_of_mem _ hz)) fun c hc => ?_
      rw [Array.toList_append, List.mem_append] at hc
      exact hc.elim (h c) (hy y (by simp) c)
  refine this _ _ (fun y hy c hc => ?_) (fun c hc => nomatch hc)
  rw [List.eq_of_mem_replicate hy, slash_mk] at hc
  simpa using hc
theorem dir_mid {x : Str} {a p b : List Nat} {c : Nat} (h : cl x = a ++ 47 :: p) (hp : 47 ∉ p) (ha : a = b ++ [c]) (hc : c ≠ 47) : dirV x = T a := by
  unfold dirV
  rw [head_eq h hp, if_pos, strip_one ha hc]
  have h1 : (T (a ++ [47])).length ≠ 0 := by rw [T_len]; simp
  have h2 : (T (a ++ [47]) == repV (T (a ++ [47])).length) = false := beq_eq_false_iff_ne.mpr fun q => by
    have : c ∈ cl (repV (T (a ++ [47])).length) := by rw [← q, T_cl, ha]; simp
    exact hc (rep_all c this)
  rw [h2]
  simp [h1]
theorem dir_top {i p : Str} (hi : Ini i) (hp : Fr p) : dirV (i ++ p) = i := by
  have hx : ∃ a, cl (i ++ p) = a ++ 47 :: cl p ∧ T (a ++ [47]) = i := by
    rcases hi with h | h <;> subst h
    · exact ⟨[], by rw [cl_app]; rfl, by decide⟩
    · exact ⟨[47], by rw [cl_app]; rfl, by decide⟩
  obtain ⟨a, e, e2⟩ := hx
  unfold dirV
  rw [head_eq e hp, e2]
  rcases hi with h | h <;> subst h <;> decide +kernel
theorem join_snoc (p : Str) : ∀ {n : List Str}, n ≠ [] → Str.join slash (n ++ [p]) = Str.join slash n ++ slash ++ p
  | [], h => absurd rfl h
  | [a], _ => rfl
  | a :: b :: r, _ => by
    have ih := join_snoc p (n := b :: r) (by simp)
    show a ++ slash ++ Str.join slash ((b :: r) ++ [p]) = a ++ slash ++ Str.join slash (b :: r) ++ slash ++ p
    rw [ih]
    exact cl_inj (by simp only [cl_app, List.append_assoc])
theorem nm_close {a : Str} (h : Nm a) : ∃ b c, cl a = b ++ [c] ∧ c ≠ 47 := by
  rcases List.eq_nil_or_concat (cl a) with e | ⟨b, c, e⟩
  · exact absurd (cl_inj (e.trans (by decide))) h.2.1
  · rw [List.concat_eq_append] at e
    exact ⟨b, c, e, fun q => h.1 (by rw [e, q]; simp)⟩
theorem join_close {n : List Str} (h : ∀ p ∈ n, Nm p) (hn : n ≠ []) : ∃ b c, cl (Str.join slash n) = b ++ [c] ∧ c ≠ 47 := by
  rcases List.eq_nil_or_concat n with e | ⟨m, p, e⟩
  · exact absurd e hn
  · rw [List.concat_eq_append] at e
    subst e
    obtain ⟨b, c, e, hc⟩ := nm_close (h p (by simp))
    by_cases hm : m = []
    · subst hm; exact ⟨b, c, e, hc⟩
    · exact ⟨cl (Str.join slash m) ++ cl slash ++ b, c, by rw [join_snoc p hm, cl_app, cl_app, e]; simp, hc⟩
theorem dir_spell {m : List Str} {a : Str} (h : VR (m ++ [a])) (hm : m ≠ []) : dirV (spell (m ++ [a])) = spell m := by
  obtain ⟨i, n, e, hi, hn⟩ := h
  cases m with
  | nil => exact absurd rfl hm
  | cons j m =>
    obtain ⟨rfl, rfl⟩ := List.cons.inj e
    show dirV (j ++ Str.join slash (m ++ [a])) = j ++ Str.join slash m
    have ha := hn a (by simp)
    by_cases hm : m = []
    · subst hm
      show dirV (j ++ a) = j ++ ""
      rw [dir_top hi ha.1]
      exact cl_inj (by rw [cl_app, show cl "" = [] from by decide, List.append_nil])
    · obtain ⟨b, c, e, hc⟩ := join_close (n := m) (fun p hp => hn p (by simp [hp])) hm
      rw [join_snoc a hm, dir_mid (a := cl (j ++ Str.join slash m)) (p := cl a) (b := cl j ++ b) (c := c) (by simp only [cl_app, cl_slash, List.append_assoc]; rfl) ha.1 (by rw [cl_app, e, List.append_assoc]) hc]
end Mine
end

section
open PySem PySem.W PyProof.Rows PySem.Calls
open PySem.Builtin PySem.Builtin.Str
set_option linter.unusedVariables false
set_option maxRecDepth 100000
namespace Mine
theorem wyA_len : ∀ q : List Str, (wyA q).length = q.length
  | [] => rfl
  | a :: q => by show (wyA q).length + 1 = _; rw [wyA_len q]; rfl
theorem wyA_get : ∀ (q : List Str) (i : Nat) (y : Str), (wyA q)[i]? = some y → i < q.length ∧ y = spell (q.drop i).reverse
  | [], i, y, h => by simp [wyA] at h
  | a :: q, 0, y, h => ⟨by simp, by
    have h : some (spell (a :: q).reverse) = some y := h
    exact (Option.some.inj h).symm⟩
  | a :: q, i + 1, y, h => by
    have h : (wyA q)[i]? = some y := by simpa [wyA] using h
    obtain ⟨h1, h2⟩ := wyA_get q i y h
    exact ⟨by simp; lia  , by simpa using h2⟩
theorem VR_ne {r : List Str} (h : VR r) : r ≠ [] := by obtain ⟨i, n, rfl, _⟩ := h; simp
theorem way_of {r : List Str} (hv : VR r) (hs : ∀ n, n ≠ [] → n <+: r → (spell n).length ≤ 1000) (hl : r.length ≤ 1000) : IsWay (spell r) (wyR r) where
  first := by
    obtain ⟨s, e⟩ := wyR_ne (VR_ne hv)
    rw [e]; rfl
  next := fun i y z h1 h2 => by
    obtain ⟨a1, rfl⟩ := wyA_get _ _ _ h1
    obtain ⟨a2, rfl⟩ := wyA_get _ _ _ h2
    have e : r.reverse.drop i = r.reverse[i] :: r.reverse.drop (i + 1) := List.drop_eq_getElem_cons a1
    have hne : (r.reverse.drop (i + 1)).reverse ≠ [] := by
      intro q
      have := congrArg List.length q
      simp at this a2
      lia  
    have hp : (r.reverse.drop i).reverse <+: r := by
      have := List.reverse_prefix.mpr (List.drop_suffix i r.reverse)
      simpa using this
    have hv2 : VR ((r.reverse.drop i).reverse) := VR_apart.pre r _ hv (by rw [e]; simp) hp
    rw [e, List.reverse_cons] at hv2 ⊢
    refine ⟨dir_spell hv2 hne, fun q => ?_⟩
    have hv3 : VR ((r.reverse.drop (i + 1)).reverse) := VR_apart.pre _ _ hv2 hne (List.prefix_append _ _)
    have := congrArg List.length (VR_apart.inj _ _ hv3 hv2 q)
    simp at this
  last := fun y h => by
    rw [List.getLast?_eq_getElem?] at h
    obtain ⟨a1, rfl⟩ := wyA_get _ _ _ h
    have hl : (wyR r).length = r.length := by unfold wyR; rw [wyA_len]; simp
    obtain ⟨i, n, rfl, hi, hn⟩ := hv
    rw [hl]
    have : ((i :: n).reverse.drop ((i :: n).length - 1)).reverse = [i] := by simp
    rw [this]
    show dirV (i ++ "") = i ++ ""
    rw [show i ++ ("" : Str) = i from cl_inj (by rw [cl_app, show cl "" = [] from by decide, List.append_nil])]
    exact dir_ini hi
  short := fun y h => by
    obtain ⟨n, h1, h2, rfl⟩ := wyR_mem.mp h
    exact hs n h1 h2
  few := by unfold wyR; rw [wyA_len]; simpa using hl
end Mine
end

section
open PySem PySem.W PyProof.Rows PySem.Calls
open PySem.Builtin PySem.Builtin.Str
set_option linter.unusedVariables false
set_option maxRecDepth 100000
namespace Mine
theorem sp_snoc (t : Str) {p : Str} (hp : Fr p) : Txt.split (t ++ slash ++ p) slash = Txt.split t slash ++ [p] := by
  refine join_uniq (fun q hq => sp_free hq) (fun q hq => ?_) (sp_ne _) (by simp) ?_
  · rcases List.mem_append.mp hq with h | h
    · exact sp_free h
    · rw [List.mem_singleton.mp h]; exact hp
  · rw [sp_join, join_snoc p (sp_ne t), sp_join]
theorem good_snoc {t : Str} (h : GoodT t) (p : Str) : GoodT (t ++ slash ++ p) ∧ rootV (t ++ slash ++ p) = rootV t := by
  obtain ⟨ini, rst, c, s, rfl, hi, hr, hc⟩ := h
  have e : ini ++ rst ++ slash ++ p = ini ++ (rst ++ slash ++ p) := cl_inj (by simp only [cl_app, List.append_assoc])
  have er : cl (rst ++ slash ++ p) = c :: (s ++ cl slash ++ cl p) := by rw [cl_app, cl_app, hr]; simp
  rw [e]
  exact ⟨⟨ini, _, c, _, rfl, hi, er, hc⟩, by rw [(sr_good hi er hc).2, (sr_good hi hr hc).2]⟩
theorem row_snoc {t : Str} (h : GoodT t) {p : Str} (hp : Fr p) : rowV (t ++ slash ++ p) = rowStep (rowV t) p := by
  unfold rowV
  rw [(good_snoc h p).2, sp_snoc t hp, List.foldl_append]; rfl
theorem piece_fr (i : Nat) : Fr (pieces7.getD i "") := by
  by_cases h : i < 7
  · have : ∀ j : Fin 7, 47 ∉ cl (pieces7.getD j.1 "") := by decide
    exact this ⟨i, h⟩
  · have : pieces7.getD i "" = "" := by
      rw [List.getD_eq_getElem?_getD, List.getElem?_eq_none (Nat.le_of_not_lt h)]; rfl
    rw [this]; exact fr_empty
theorem grow_good : ∀ (f n : Nat) (t : Str), GoodT t → GoodT (growF f n t) ∧ (rowV (growF f n t)).length ≤ (rowV t).length + f
  | 0, _, t, h => ⟨h, Nat.le_refl _⟩
  | f + 1, n, t, h => by
    unfold growF
    split
    · exact ⟨h, by lia  ⟩
    · obtain ⟨h1, h2⟩ := grow_good f (n / 7) (t ++ slash ++ pieces7.getD (n % 7) "") (good_snoc h _).1
      rw [row_snoc h (piece_fr _)] at h2
      have := rowStep_len (rowV t) (pieces7.getD (n % 7) "")
      exact ⟨h1, by lia  ⟩
theorem good_mk {x i r : Str} {c : Nat} {t : List Nat} (e : x = i ++ r) (hi : Ini i) (hr : cl r = c :: t) (hc : c ≠ 47) : GoodT x := ⟨i, r, c, t, e, hi, hr, hc⟩
theorem dot_good : GoodT "/." ∧ (rowV "/.").length = 1 := ⟨good_mk (i := "/") (r := ".") (c := 46) (t := []) (by decide) (.inl rfl) (by decide) (by decide), by decide +kernel⟩
theorem ddot_good : GoodT "//." ∧ (rowV "//.").length = 1 := ⟨good_mk (i := "//") (r := ".") (c := 46) (t := []) (by decide) (.inr rfl) (by decide) (by decide), by decide +kernel⟩
/-- sound texts: rows at most B, in all at most S -/
structure Sound (acc : List Str) (B S : Nat) : Prop where
  good : ∀ t ∈ acc, GoodT t
  row : ∀ t ∈ acc, (rowV t).length ≤ B
  all : ((acc.map fun t => (rowV t).length).sum) ≤ S
theorem base_sound : Sound base3 4 9 where
  good := fun t h => by
    simp only [base3, List.mem_cons, List.not_mem_nil, or_false] at h
    rcases h with rfl | rfl | rfl
    · exact good_mk (i := "/") (r := "a/b") (c := 97) (t := [47, 98]) (by decide) (.inl rfl) (by decide) (by decide)
    · exact good_mk (i := "/") (r := "a//c/../b/a") (c := 97) (t := (cl "a//c/../b/a").tail) (by decide) (.inl rfl) (by decide) (by decide)
    · exact good_mk (i := "/") (r := "b/.") (c := 98) (t := [47, 46]) (by decide) (.inl rfl) (by decide) (by decide)
  row := by decide +kernel
  all := by decide +kernel
theorem seed_good {acc : List Str} {B S : Nat} (h : Sound acc B S) (hB : 1 ≤ B) (hne : acc ≠ []) (k : Nat) : GoodT (seedOf acc k) ∧ (rowV (seedOf acc k)).length ≤ B := by
  unfold seedOf
  split
  · exact ⟨dot_good.1, by rw [dot_good.2]; exact hB⟩
  · split
    · exact ⟨ddot_good.1, by rw [ddot_good.2]; exact hB⟩
    · have hp := List.length_pos_iff.mpr hne
      have hi : acc.length - 1 - k % acc.length < acc.length := by lia  
      rw [List.getD_eq_getElem?_getD, List.getElem?_eq_getElem hi]
      exact ⟨h.good _ (by simp), h.row _ (by simp)⟩
theorem sound_snoc {acc : List Str} {B S : Nat} (h : Sound acc B S) (hB : 1 ≤ B) (hne : acc ≠ []) (x : Int) : Sound (acc ++ [textOf acc x]) (B + 3) (S + (B + 3)) := by
  obtain ⟨g1, g2⟩ := seed_good h hB hne (x.natAbs % 392 % 8)
  obtain ⟨t1, t2⟩ := grow_good 3 (x.natAbs % 392 / 8) _ g1
  have t2 : (rowV (textOf acc x)).length ≤ B + 3 := by unfold textOf; lia  
  refine ⟨fun t ht => ?_, fun t ht => ?_, ?_⟩
  · rcases List.mem_append.mp ht with ht | ht
    · exact h.good t ht
    · rw [List.mem_singleton.mp ht]; exact t1
  · rcases List.mem_append.mp ht with ht | ht
    · have := h.row t ht; lia  
    · rw [List.mem_singleton.mp ht]; exact t2
  · have := h.all
    rw [List.map_append, List.sum_append]
    simp; lia  
theorem sound_all {xs : List Int} (hx : xs.length ≤ 4) : Sound (textsN xs) 16 55 := by
  have : ∀ (l : List Int) (acc : List Str) (B S : Nat), Sound acc B S → 1 ≤ B → acc ≠ [] → (l.length = 0 → B ≤ 16 ∧ S ≤ 55) → (l.length = 1 → B ≤ 13 ∧ S ≤ 39) → (l.length = 2 → B ≤ 10 ∧ S ≤ 26) → (l.length = 3 → B ≤ 7 ∧ S ≤ 16) → (l.length = 4 → B ≤ 4 ∧ S ≤ 9) → l.length ≤ 4 →
      Sound (l.foldl (fun acc x => acc ++ [textOf acc x]) acc) 16 55 := by
    intro l; induction l with
    | nil =>
      intro acc B S h _ _ h0 _ _ _ _ _
      obtain ⟨b, s⟩ := h0 rfl
      exact ⟨h.good, fun t ht => Nat.le_trans (h.row t ht) b, Nat.le_trans h.all s⟩
    | cons a r ih =>
      intro acc B S h hB hne h0 h1 h2 h3 h4 hl
      simp only [List.length_cons] at *
      refine ih (acc ++ [textOf acc a]) (B + 3) (S + (B + 3)) (sound_snoc h hB hne a) (by lia  ) (by simp) ?_ ?_ ?_ ?_ ?_ (by lia  )
      · intro q; have := h1 (by lia  ); lia  
      · intro q; have := h2 (by lia  ); lia  
      · intro q; have := h3 (by lia  ); lia  
      · intro q; have := h4 (by lia  ); lia  
      · intro q; lia  
  exact this xs base3 4 9 base_sound (by lia  ) (by decide) (by lia  ) (by lia  ) (by lia  ) (by lia  ) (by lia  ) hx
end Mine
end

section
open PySem PySem.W PyProof.Rows PySem.Calls
open PySem.Builtin PySem.Builtin.Str
set_option linter.unusedVariables false
set_option maxRecDepth 100000
namespace Mine
open Classical in
noncomputable def wyV (p : Str) : List Str := if h : ∃ r, VR r ∧ spell r = p then wyR (choose h) else [p]
theorem wyV_spell {r : List Str} (h : VR r) : wyV (spell r) = wyR r := by
  have hx : ∃ q, VR q ∧ spell q = spell r := ⟨r, h, rfl⟩
  unfold wyV
  rw [dif_pos hx]
  obtain ⟨a, b⟩ := Classical.choose_spec hx
  rw [VR_apart.inj _ _ a h b]
noncomputable def plV (x : Str) : Str := spell (rowV x)
noncomputable def dueF (X : List Str) : List Str := (ysOf (endsV (rowsV X))).map (·.2.2)
theorem sum_le {l : List Str} {B : Nat} (h : ∀ p ∈ l, p.length ≤ B) : (l.map (·.length)).sum ≤ l.length * B := StrLaws.sumLen_le l h
theorem row_names {x : Str} (h : GoodT x) : ∀ p ∈ (rowV x).tail, p.length ≤ x.length := by
  obtain ⟨ini, rst, c, t, rfl, hi, hr, hc⟩ := h
  intro p hp
  rw [(row_good hi hr hc).1] at hp
  have := split_len (npAll_mem hp)
  rw [← cl_len, ← cl_len] at *
  rw [cl_app, List.length_append]
  lia  
theorem spell_short {x : Str} (h : GoodT x) (hz : x.length ≤ 48) (hr : (rowV x).length ≤ 16) : ∀ n, n ≠ [] → n <+: rowV x → (spell n).length ≤ 1000 := by
  intro n hn hp
  have hv := row_VR h
  obtain ⟨i, m, rfl, hi, hm⟩ := VR_apart.pre _ n hv hn hp
  have hl := hp.length_le
  have h2 : ∀ p ∈ m, p.length ≤ 48 := fun p q => by
    have : p ∈ (rowV x).tail := by
      obtain ⟨s, e⟩ := hp
      rw [← e]; simp [q]
    have := row_names h p this
    lia  
  show (i ++ Str.join slash m).length ≤ 1000
  rw [← cl_len, cl_app, List.length_append, cl_len, cl_len]
  have h3 := StrLaws.join_length_le slash m
  have h4 := sum_le h2
  have h5 := (ini_len hi).2
  rw [show slash.length = 1 by decide] at h3
  simp only [List.length_cons] at hl
  lia  
theorem rows_sum (X : List Str) : ((rowsV X).map List.length).sum ≤ (X.map fun t => (rowV t).length).sum := by
  have : ∀ (l : List Str) (acc : List (List Str)), ((l.foldl rowsAdd acc).map List.length).sum ≤ (acc.map List.length).sum + (l.map fun t => (rowV t).length).sum := by
    intro l; induction l with
    | nil => intro acc; simp
    | cons a r ih =>
      intro acc
      rw [List.foldl_cons]
      refine Nat.le_trans (ih _) ?_
      unfold rowsAdd
      split
      · rw [List.map_append, List.sum_append]; simp; lia  
      · simp
  have := this X []
  unfold rowsV
  simpa using this
theorem filter_sum (P : List Str → Bool) : ∀ l : List (List Str), ((l.filter P).map List.length).sum ≤ (l.map List.length).sum
  | [] => Nat.le_refl _
  | a :: l => by
    have := filter_sum P l
    rw [List.filter_cons]
    split <;> simp <;> lia  
theorem dueAtN_le (ends : List (List Str)) (k : Nat) : ∀ j, (dueAtN ends k j).length ≤ j
  | 0 => Nat.le_refl _
  | j + 1 => by
    rw [dueAtN_succ, List.length_append]
    have := dueAtN_le ends k j
    have : (dueOne ends k j).length ≤ 1 := by unfold dueOne; split <;> simp
    lia  
theorem dueL_le (ends : List (List Str)) : (dueL ends).length ≤ (ends.map List.length).sum := by
  have : ∀ k, k ≤ ends.length → (dueN ends k).length ≤ ((ends.take k).map List.length).sum := by
    intro k; induction k with
    | zero => intro _; exact Nat.le_refl _
    | succ k ih =>
      intro hk
      have hk' : k < ends.length := by lia  
      rw [dueN_succ, List.length_append, List.take_add_one, List.map_append, List.sum_append, List.getElem?_eq_getElem hk']
      have h1 := ih (by lia  )
      have h2 := dueAtN_le ends k (ends.getD k []).length
      have : ends.getD k [] = ends[k] := by simp [hk']
      rw [this] at h2
      unfold dueAt
      rw [this]
      show _ + _ ≤ _ + ([ends[k].length].sum)
      rw [List.sum_singleton]
      lia  
  have h := this ends.length (Nat.le_refl _)
  rw [List.take_length] at h
  exact h
theorem sum_turned {stp : Int} (l : List Nat) : (turned stp l).sum = l.sum := by unfold turned; split <;> simp
section
variable {prog : Program} {w : World} {fa : Str → Addr} {mg mb : Str → Option Value}
theorem lawF {xs : List Int} (hx : xs.length ≤ 4) : LawF prog w fa mg mb (textsN xs) plV wyV dueF := by
  have S := sound_all hx
  have hlen : ∀ x ∈ textsN xs, x.length ≤ 48 := fun x h => by have := textsN_short xs x h; lia  
  have hn := textsN_len xs
  have hw : ∀ x ∈ textsN xs, wyV (plV x) = wyR (rowV x) := fun x h => wyV_spell (row_VR (S.good x h))
  have eW : ((textsN xs).map fun x => wyV (plV x)) = (textsN xs).map fun x => wyR (rowV x) := List.map_congr_left hw
  have hV : ∀ x ∈ textsN xs, VR (rowV x) ∧ rowV x ≠ [] := fun x h => ⟨row_VR (S.good x h), VR_ne (row_VR (S.good x h))⟩
  have hVt : ∀ stp : Int, ∀ x ∈ turned stp (textsN xs), VR (rowV x) ∧ rowV x ≠ [] := fun stp x h => hV x (turned_mem.mp h)
  have F : Forest ((textsN xs).map fun x => wyR (rowV x)) := by
    have := rows_forest VR_apart (R := (textsN xs).map rowV) fun r h => by
      obtain ⟨x, hx, rfl⟩ := List.mem_map.mp h
      exact (hV x hx).1
    rwa [List.map_map] at this
  have ne : ∀ v ∈ (textsN xs).map fun x => wyR (rowV x), v ≠ [] := fun v h => by
    obtain ⟨x, hx, rfl⟩ := List.mem_map.mp h
    obtain ⟨s, e⟩ := wyR_ne (hV x hx).2
    rw [e]; simp
  have hup : ∀ X : List Str, (∀ x ∈ X, VR (rowV x) ∧ rowV x ≠ []) → upL (X.map fun x => wyR (rowV x)) = dueF X := fun X h => by
    rw [upL_rows VR_apart h]
    unfold dueF
    rw [due_up VR_apart fun r hr => ?_]
    obtain ⟨x, hx, rfl⟩ := rowsV_mem (List.mem_filter.mp hr).1
    exact (h x hx).1
  have Ft : ∀ stp : Int, Forest (turned stp ((textsN xs).map fun x => wyR (rowV x))) := fun stp => F.sub fun v h => turned_mem.mp h
  refine ⟨by lia  , fun q => by rw [q] at hn; simp at hn, fun x h => ?_, fun x h => ?_, fun x h => ?_, fun stp _ => ?_, fun stp _ => ?_, fun stp _ => ?_, fun stp _ => ?_, ?_⟩
  · obtain ⟨ini, rst, c, t, rfl, hi, hr, hc⟩ := S.good x h
    have hz := hlen _ h
    have hl : (ini ++ rst).length = ini.length + rst.length := by rw [← cl_len, cl_app, List.length_append, cl_len, cl_len]
    have := normpath_ok (prog := prog) (w := w) (fa := fa) (mg := mg) (mb := mb) (x := ini ++ rst) (by lia  ) (by have := (ini_len hi).1; lia  ) (sr_good hi hr hc).1 (ini_len hi).1 (by lia  ) (by lia  )
    have e : plV (ini ++ rst) = ini ++ Str.join slash (npAll ini (Txt.split rst slash)) := by unfold plV; rw [(row_good hi hr hc).1]; rfl
    rw [e]; exact this
  · rw [hw x h]
    exact law_way_ok (way_of (hV x h).1 (spell_short (S.good x h) (hlen x h) (S.row x h)) (by have := S.row x h; lia  ))
  · rw [hw x h]
    refine ⟨ne _ (List.mem_map_of_mem (f := fun x => wyR (rowV x)) h), ?_⟩
    unfold wyR; rw [wyA_len]; have := S.row x h; simp; lia  
  · refine law_due_ok (ysOf_perm _) (ysOf_pw _) ?_ (fun x h => ?_) (by rw [turned_len]; lia  )
    · have h1 := dueL_le (endsV (rowsV (turned stp (textsN xs))))
      have h2 := filter_sum (fun r => ((rowsV (turned stp (textsN xs))).filter (below r)).isEmpty) (rowsV (turned stp (textsN xs)))
      have h3 := rows_sum (turned stp (textsN xs))
      rw [← turned_map, sum_turned] at h3
      have := S.all
      unfold endsV at h1 ⊢
      lia  
    · have := hlen x (turned_mem.mp h); lia  
  · rw [eW, up_merge (Ft stp) fun v h => ne v (turned_mem.mp h), turned_map, hup _ (hVt stp)]
  · have eP : (textsN xs).map plV = ((textsN xs).map fun x => wyR (rowV x)).map hd1 := by
      rw [List.map_map]
      exact List.map_congr_left fun x h => (hd1_wyR (hV x h).2).symm
    rw [eW, eP, turned_map stp hd1, up_walk F ne fun v => turned_mem, turned_map, hup _ (hVt stp)]
  · rw [eW]; exact down_merge (Ft stp)
  · rw [eW, ← hup _ hV]
    exact bent_fact F ne (by intro q; have := congrArg List.length q; simp at this; rw [this] at hn; simp at hn)
end
end Mine
end

section
open PySem PySem.W PyProof.Rows
set_option maxRecDepth 100000
namespace Mine
noncomputable def refA : Option Value → Addr
  | some (.ref a) => a
  | _ => default
theorem ns_one {h : Heap} {ka : Addr} {o : Obj} {e : DictEntry} {es : Array DictEntry} {ep : Nat} {n : Str} {t : Tok} {v : Value} (ho : h.get? ka = some o) (hd : o.data = .dict es ep) (hl : es.toList = [e]) (hk : e.key = .str n t) (hv : e.val = v) :
    h.Ns ka (fun x => if x = n then some v else none) := by
  refine ⟨_, _, _, ho, hd, fun x hx => ?_, fun name => ?_⟩
  · rw [← Array.mem_toList_iff, hl, List.mem_singleton] at hx
    exact ⟨n, t, hx ▸ hk⟩
  · have q : (Value.str n t).isStr name = decide (name = n) := by
      show (n == name) = _
      rw [Bool.eq_iff_iff, beq_iff_eq, decide_eq_true_iff]
      exact eq_comm
    unfold nsFind findBy
    rw [← Array.find?_toList, hl, List.find?_cons, hk]
    show Option.map _ (match (Value.str n t).isStr name with | true => some e | false => none) = if name = n then some v else none
    rw [q]
    by_cases c : name = n
    · rw [decide_eq_true c, if_pos c, ← hv]; rfl
    · rw [decide_eq_false c, if_neg c]; rfl
/-- what the top must have laid, one def -/
noncomputable def FnAt (h : Heap) (mg : Str → Option Value) (n : Str) (i : Nat) : Prop := mg n = some (.ref (refA (mg n))) ∧ FnIs h (refA (mg n)) n i
theorem FnAt.of {h : Heap} {mg : Str → Option Value} {n : Str} {i : Nat} {al : Addr} {o : Obj} {kV doc pm : Value} {an : Option Addr} {cd ct : Value}
    (e : mg n = some (.ref al)) (ho : h.get? al = some o) (hd : o.data = .func (fdOf n i kV doc pm an cd ct)) (hc : h.CodeRec cd n)
    (hk : n = ("_deduplicate" : Str) → ∃ ka, kV = .ref ka ∧ h.Ns ka (fun x => if x = ("unhashable_fallback" : Str) then some (.bool false) else none)) : FnAt h mg n i := by
  unfold FnAt
  rw [e]
  refine ⟨rfl, .mk o.cls o.dict o.slots kV doc pm an cd ct ?_ hc hk⟩
  rw [← hd]
  exact ho
theorem FnAt.keeps {h h' : Heap} {mg : Str → Option Value} {n : Str} {i : Nat} (F : FnAt h mg n i) (g : ∀ b o, h.get? b = some o → h'.get? b = some o) : FnAt h' mg n i := ⟨F.1, F.2.gr g⟩
theorem FnAt.mg {h : Heap} {mg mg' : Str → Option Value} {n : Str} {i : Nat} (F : FnAt h mg n i) (e : mg n = mg' n) : FnAt h mg' n i := by
  unfold FnAt at *
  rwa [← e]
noncomputable def recAt (n : Str) (i : Nat) : DefRec := ⟨n, pAt i, bAt i, sAt i, posAt i⟩
theorem FnAt.ofTop {q : Program} {loose : List Str} {mean : ExcName → Option Value} {mg mb : Str → Option Value} {h : Heap} (T : Top q loose mean mg mb h) {n : Str} {i : Nat} (hr : (recsOf q).find? (fun e => e.name == n) = some (recAt n i)) (hn : n ≠ ("_deduplicate" : Str)) :
    FnAt h mg n i := by
  obtain ⟨a, o, pm, code, doc, h1, h2, h3, h4⟩ := T.fn (recAt n i) (List.mem_of_find?_eq_some hr)
  exact .of h1 h2 h3 h4 fun e => absurd e hn
/-- the one def that the view does not hold, with the row that names its module -/
noncomputable def ddP : Program := { PySem.Challenge.pw_ik0174_01 with main := { PySem.Challenge.pw_ik0174_01.main with body := [3, 4].filterMap stAt } }
noncomputable def ddE : Expr := ((pAt 4).kw_defaults.headD none).getD (.Constant .none 0 ⟨0, 0, 0, 0⟩)
theorem dd_mem : (recAt "_deduplicate" 4, [(("unhashable_fallback" : Str), ddE)]) ∈ wdefsOf ddP := List.mem_of_getElem? (i := 0) (by kernel_rfl)
theorem dd_lit : literalOfW? ddE = some (.bool false) := by kernel_rfl
theorem dd_pos : (pAt 4).defaults = [] := by kernel_rfl
noncomputable def ddSays (h : Heap) : Prop := ∃ mg, h.Ns mainGlobals mg ∧ TopW ddP mg h
noncomputable def ddHook : Hook :=
  ⟨Bool × (List (Option FnShape) × Bool), fun s => (s.heap.isNs mainGlobals, wideSeen ddP s), fun _ => (true, wideGood ddP), fun _ h => ddSays h, fun _ _ e => ⟨_, .of_isNs (congrArg Prod.fst e), topW_of_seen (congrArg Prod.snd e)⟩,
    fun _ _ _ x g => x.imp fun _ y => ⟨y.1.keeps g, y.2.keeps g⟩⟩
theorem lit_bool {h : Heap} {v : Value} {d : Bool} (r : ReadsLit h v (.bool d) []) : v = .bool d := by cases r; rfl
theorem kw_one {mg : Str → Option Value} {h : Heap} {es : List DictEntry} {x : Str} {e : Expr} {d : Bool} (K : KeysNamed es [x]) (D : DfltsAre mg h [e] (es.map (·.val))) (hl : literalOfW? e = some (.bool d)) : ∃ en t, es = [en] ∧ en.key = .str x t ∧ en.val = .bool d := by
  cases K with
  | cons hk K =>
    cases K
    cases D with
    | cons hd _ =>
      rcases hd with ⟨y, h1, h2⟩ | ⟨_, _, h1, _⟩
      · rw [hl] at h1
        cases h1
        exact ⟨_, _, rfl, hk, lit_bool h2⟩
      · rw [h1] at hl; cases hl
theorem dd_of {h : Heap} {mg : Str → Option Value} (Y : ddSays h) (G : h.Ns mainGlobals mg) : FnAt h mg "_deduplicate" 4 := by
  obtain ⟨mg', ⟨o, es, ep, a1, a2, _, a4⟩, TW⟩ := Y
  obtain ⟨o', es', ep', b1, b2, _, b4⟩ := G
  rw [a1] at b1
  cases b1
  rw [a2] at b2
  cases b2
  obtain ⟨a, o, pm, code, doc, dV, kV, h1, h2, h3, h4, h5⟩ := TW.defs _ dd_mem
  have e1 : dV = .none := by
    rcases h5.pos with q | q
    · exact q.2
    · exact absurd dd_pos q.1
  subst e1
  rcases h5.kw with q | ⟨_, k, ob, es, n, e2, e3, _, e4, K, D⟩
  · cases q.1
  · obtain ⟨en, t, f1, f2, f3⟩ := kw_one K D dd_lit
    exact FnAt.mg (.of h1 h2 h3 h4 fun _ => ⟨k, e2, ns_one e3 e4 f1 f2 f3⟩) ((a4 _).symm.trans (b4 _))
theorem ints_den {P : Params} {h : Heap} {X : AP} : ∀ (xs : List Int) (vs : List Value), WellAll P h vs (ofPys (xs.map .int)) → DenAll h X (xs.map .int) vs
  | [], vs, e => by
    cases e
    unfold DenAll; rfl
  | x :: xs, vs, e => by
    obtain ⟨v, vs', rfl, h1, h2⟩ := wellAll_cons_inv e
    unfold DenAll
    refine ⟨v, vs', rfl, ?_, ints_den xs vs' h2⟩
    have h1 : Well P h v (.int x) := h1
    cases h1
    unfold Den
    exact ⟨_, rfl⟩
theorem list_den {P : Params} {h : Heap} {X : AP} {v : Value} {xs : List Int} (hX : ∀ a, ¬ X a) (e : Well P h v (ofPy (.list (xs.map .int)))) : Den h X (.list (xs.map .int)) v := by
  have e : Well P h v (.list (ofPys (xs.map .int))) := e
  cases e with
  | list h1 h2 =>
    unfold Den
    exact ⟨_, _, _, rfl, hX _, h1, ints_den xs _ h2⟩
theorem fn_row {h : Heap} {mg : Str → Option Value} (h0 : FnAt h mg "_c3_merge" 2) (h1 : FnAt h mg "_deduplicate" 4) (h2 : FnAt h mg "_get_sep" 7) (h3 : FnAt h mg "fspath" 16) (h4 : FnAt h mg "splitroot" 18) (h5 : FnAt h mg "dirname" 19)
    (h6 : FnAt h mg "normpath" 20) (h7 : FnAt h mg "_law_texts" 22) (h8 : FnAt h mg "_law_way" 23) (h9 : FnAt h mg "_law_row" 24) (h10 : FnAt h mg "_law_due" 25) : ∀ q ∈ fnTable, FnAt h mg q.1 q.2 := by
  intro q hq
  simp only [fnTable, List.mem_cons, List.not_mem_nil, or_false] at hq
  rcases hq with rfl | rfl | rfl | rfl | rfl | rfl | rfl | rfl | rfl | rfl | rfl <;> assumption
theorem bt_boot : bltTable.map (fun x => bootBuiltins x.1) = bltTable.map fun x => some x.2 := by rfl
theorem bt_row {q : Program} {loose : List Str} {mean : ExcName → Option Value} {mg mb : Str → Option Value} {h : Heap} (T : Top q loose mean mg mb h)
    (hn : (bltTable.all fun x => !(startupNames.contains x.1 || loose.contains x.1 || ((recsOf q).map (·.name)).contains x.1 || ((litsOf q).map (·.1)).contains x.1 || ((clssOf q loose).map (·.name)).contains x.1)) = true) :
    ∀ x ∈ bltTable, mg x.1 = none ∧ mb x.1 = some x.2 := by
  intro x hx
  have e := List.all_eq_true.mp hn x hx
  simp only [Bool.not_eq_true', Bool.or_eq_false_iff] at e
  have no : ∀ {l : List Str}, l.contains x.1 = false → x.1 ∉ l := fun {l} e m => by
    rw [List.contains_iff_mem.mpr m] at e; cases e
  refine ⟨T.free x.1 (no e.1.1.1.1) (no e.1.1.1.2) (no e.1.1.2) (no e.1.2) (no e.2), (T.builtins _ fun q => no e.1.1.1.1 ?_).trans (List.map_inj_left.mp bt_boot x hx)⟩
  rw [q]; exact List.mem_cons_self
theorem law_walk {w : World} {s₁ : Shared} {mg mb : Str → Option Value} {R : Result → Shared → Prop} {fl l : Addr} {xs : List Int}
    (fl0 : FnAt s₁.heap mg "law" 26) (fn : ∀ q ∈ fnTable, FnAt s₁.heap mg q.1 q.2) (bt : ∀ q ∈ bltTable, mg q.1 = none ∧ mb q.1 = some q.2)
    (G : s₁.heap.Ns mainGlobals mg) (B : s₁.heap.Ns builtinsNs mb) (lim : s₁.heap.NoLimit)
    (hmg : mg "law" = some (.ref fl)) (W : Well w.params s₁.heap (.ref l) (ofPy (.list (xs.map .int)))) (hlen : xs.length ≤ 63)
    (k : ∀ h' tk', Gr s₁.heap h' → R (.ok (.ret (.bool true))) (St s₁ h' tk')) :
    codeAny (model PySem.Challenge.rw_ik0174_01.row.prog w) callerA (.call (.ref fl) ⟨[.ref l], []⟩) R s₁ := by
  obtain ⟨e, oc, od, osl, kV, doc, pm, an, cd, ct, ho, hcd, _⟩ := fl0
  rw [hmg] at ho
  have T : Tp (fun x => refA (mg x)) mg mb s₁.heap := ⟨G, B, lim, fn, bt⟩
  exact law_code (s := s₁) (h := s₁.heap) (tk := s₁.toks) (X := fun _ => False) ho hcd ⟨by decide +kernel, by decide +kernel⟩ rfl rfl T (fun _ f => f.elim) (list_den (fun _ f => f) W) (by lia  )
    (lawF (xs := xs.take 4) (by rw [List.length_take]; lia  )) k
theorem good_end {c : ClaimW} {cl : Str → Option Addr} {mean : ExcName → Option Value} {args : List WData} {s₁ : Shared} {h' : Heap} {tk' : Nat} (hg : s₁.gens = #[]) (gr : Gr s₁.heap h') (hn : ∀ cls, c.raises args cls = false) (hp : c.post args (.bool true) args = true) :
    GoodWG c cl mean args s₁ (.ok (.ret (.bool true))) (St s₁ h' tk') :=
  ⟨.inl ⟨_, .bool true, [], rfl, hn, .bool true, hp, fun _ => ⟨List.nodup_nil, fun a ha => by cases ha⟩⟩, .of_keep gr, rfl, .of_eq hg⟩
end Mine
end

open PySem PySem.W PyProof.Rows
set_option maxRecDepth 100000 in
set_option maxHeartbeats 8000000 in
theorem PySem.Challenge.cw_ik0174_01_holds : PySem.Challenge.rw_ik0174_01.Holds := by
  w_on; o_law
  o_head Mine.ddHook
  case hw => w_witness2
  w_strict (
    intro w s₀ s₁ mg mb G Y fa o pm cd doc dV kV ho hd hcd hD hmg hg args vals as hpre hlay hrd hwl hlo
    have Y : Mine.ddSays s₁.heap := Y
    refine Ground.open G ?_
    intro T B D TE TW
    clear ho hd hcd hD B D TE TW
    have f0 : Mine.FnAt s₁.heap mg "_c3_merge" 2 := Mine.FnAt.ofTop T (by kernel_rfl) (by decide)
    have f1 := Mine.dd_of Y T.g
    have f2 : Mine.FnAt s₁.heap mg "_get_sep" 7 := Mine.FnAt.ofTop T (by kernel_rfl) (by decide)
    have f3 : Mine.FnAt s₁.heap mg "fspath" 16 := Mine.FnAt.ofTop T (by kernel_rfl) (by decide)
    have f4 : Mine.FnAt s₁.heap mg "splitroot" 18 := Mine.FnAt.ofTop T (by kernel_rfl) (by decide)
    have f5 : Mine.FnAt s₁.heap mg "dirname" 19 := Mine.FnAt.ofTop T (by kernel_rfl) (by decide)
    have f6 : Mine.FnAt s₁.heap mg "normpath" 20 := Mine.FnAt.ofTop T (by kernel_rfl) (by decide)
    have f7 : Mine.FnAt s₁.heap mg "_law_texts" 22 := Mine.FnAt.ofTop T (by kernel_rfl) (by decide)
    have f8 : Mine.FnAt s₁.heap mg "_law_way" 23 := Mine.FnAt.ofTop T (by kernel_rfl) (by decide)
    have f9 : Mine.FnAt s₁.heap mg "_law_row" 24 := Mine.FnAt.ofTop T (by kernel_rfl) (by decide)
    have f10 : Mine.FnAt s₁.heap mg "_law_due" 25 := Mine.FnAt.ofTop T (by kernel_rfl) (by decide)
    have f11 : Mine.FnAt s₁.heap mg "law" 26 := Mine.FnAt.ofTop T (by kernel_rfl) (by decide)
    have fr := Mine.fn_row f0 f1 f2 f3 f4 f5 f6 f7 f8 f9 f10
    have br := Mine.bt_row T (by decide +kernel)
    clear f0 f1 f2 f3 f4 f5 f6 f7 f8 f9 f10
    wrow_args hpre hlay hrd hwl hlo
    rename_i W _ _ _ hlen _
    refine enter_call ?_
    refine Mine.law_walk f11 fr br T.g T.b T.nolimit hmg W (by omega) fun h' tk' gr => Mine.good_end hg gr (raisesW_false (by wrow_none_raised)) (postW_of (by wrow_shape) (by wtm_val) (by w_fin)))

