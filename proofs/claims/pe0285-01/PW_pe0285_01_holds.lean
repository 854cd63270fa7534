import PyProof.Rows.All
import Wide.All
import OpenK.AllK
import Wide.FinOn
import PySem.Challenge.RW_pe0285_01
set_option Elab.async false
set_option maxRecDepth 100000
set_option maxHeartbeats 0
section
open PySem PySem.W PySem.Calls PySem.Spec PyProof.Rows
set_option Elab.async false
set_option maxRecDepth 100000
namespace Mine

/-- a ground: the objects that stay as they are -/
abbrev Gr := Addr → Option Obj

/-- data as they are told -/
inductive Da where
  | none
  | bool (b : Bool)
  | int (i : Int)
  | str (x : Str)
  | tup (ds : List Da)
  | lst (ds : List Da)
  | obj (o : Obj)
  | adr (a : Addr)

/-- an object that is a list of these, a tuple of these -/
def LstO (vs : Array Value) (o : Obj) : Prop := o.cls = .type "list" ∧ ∃ n, o.data = .seq vs n
def TupO (vs : Array Value) (o : Obj) : Prop := o.cls = .type "tuple" ∧ ∃ n, o.data = .seq vs n
mutual
inductive DaIn (G : Gr) : Value → Da → Prop
  | none : DaIn G .none .none
  | bool (b : Bool) : DaIn G (.bool b) (.bool b)
  | int (i : Int) (t : Tok) : DaIn G (.int i t) (.int i)
  | str (x : Str) (t : Tok) : DaIn G (.str x t) (.str x)
  | tup {a : Addr} {o : Obj} {vs : Array Value} {ds : List Da} : G a = some o → TupO vs o → DaAll G vs.toList ds → DaIn G (.ref a) (.tup ds)
  | lst {a : Addr} {o : Obj} {vs : Array Value} {ds : List Da} : G a = some o → LstO vs o → DaAll G vs.toList ds → DaIn G (.ref a) (.lst ds)
  | obj {a : Addr} {o : Obj} : G a = some o → DaIn G (.ref a) (.obj o)
  | adr (a : Addr) : DaIn G (.ref a) (.adr a)
inductive DaAll (G : Gr) : List Value → List Da → Prop
  | nil : DaAll G [] []
  | cons {v : Value} {vs : List Value} {d : Da} {ds : List Da} : DaIn G v d → DaAll G vs ds → DaAll G (v :: vs) (d :: ds)
end

mutual
theorem DaIn.mono {G H : Gr} (hs : ∀ b o, G b = some o → H b = some o) : ∀ {v : Value} {d : Da}, DaIn G v d → DaIn H v d
  | _, _, .none => .none
  | _, _, .bool b => .bool b
  | _, _, .int i t => .int i t
  | _, _, .str x t => .str x t
  | _, _, .tup h o r => .tup (hs _ _ h) o (DaAll.mono hs r)
  | _, _, .lst h o r => .lst (hs _ _ h) o (DaAll.mono hs r)
  | _, _, .obj h => .obj (hs _ _ h)
  | _, _, .adr a => .adr a
theorem DaAll.mono {G H : Gr} (hs : ∀ b o, G b = some o → H b = some o) : ∀ {vs : List Value} {ds : List Da}, DaAll G vs ds → DaAll H vs ds
  | _, _, .nil => .nil
  | _, _, .cons h r => .cons (DaIn.mono hs h) (DaAll.mono hs r)
end

section
variable {G : Gr} {v u : Value} {d e : Da} {vs us : List Value} {ds es : List Da}
theorem DaAll.length (h : DaAll G vs ds) : vs.length = ds.length := by
  induction vs generalizing ds with
  | nil => cases h; rfl
  | cons v vs ih => cases h with | cons _ r => rw [List.length_cons, List.length_cons, ih r]
theorem DaAll.append (h : DaAll G vs ds) (k : DaAll G us es) : DaAll G (vs ++ us) (ds ++ es) := by
  induction vs generalizing ds with
  | nil => cases h; exact k
  | cons v vs ih => cases h with | cons h r => exact .cons h (ih r)
theorem DaAll.one (h : DaIn G v d) : DaAll G [v] [d] := .cons h .nil
theorem DaAll.head (h : DaAll G (v :: vs) (d :: ds)) : DaIn G v d := by cases h with | cons h _ => exact h
theorem DaAll.tail (h : DaAll G (v :: vs) (d :: ds)) : DaAll G vs ds := by cases h with | cons _ r => exact r
theorem DaAll.snoc (h : DaAll G vs ds) (k : DaIn G v d) : DaAll G (vs ++ [v]) (ds ++ [d]) := h.append (.one k)
theorem DaAll.get (h : DaAll G vs ds) {k : Nat} (hk : k < ds.length) : ∃ v, vs[k]? = some v ∧ DaIn G v (ds[k]'hk) := by
  induction vs generalizing ds k with
  | nil => cases h; exact absurd hk (Nat.not_lt_zero _)
  | cons v vs ih =>
    cases h with
    | cons h r => cases k with
      | zero => exact ⟨v, rfl, h⟩
      | succ k => exact ih r (Nat.lt_of_succ_lt_succ hk)
theorem DaAll.at (h : DaAll G vs ds) {k : Nat} (hv : vs[k]? = some v) : ∃ d, ds[k]? = some d ∧ DaIn G v d := by
  have hl := h.length
  have hk : k < vs.length := by
    obtain ⟨hk, _⟩ := List.getElem?_eq_some_iff.mp hv
    exact hk
  obtain ⟨u, hu, hd⟩ := h.get (k := k) (hl ▸ hk)
  rw [hv] at hu
  cases hu
  exact ⟨_, List.getElem?_eq_getElem (hl ▸ hk), hd⟩
theorem DaIn.handed (h : DaIn G v d) : handedIn v = true := by cases h <;> rfl
end

/-- entries of an attribute dict: names and values -/
inductive FldL : List DictEntry → List (Str × Value) → Prop
  | nil : FldL [] []
  | cons {hs : Int} {x : Str} {tk : Tok} {v : Value} {es : List DictEntry} {l : List (Str × Value)} : FldL es l → FldL (⟨hs, .str x tk, v⟩ :: es) ((x, v) :: l)
def Flds (o : Obj) (l : List (Str × Value)) : Prop := ∃ es n, o = PySem.W.dictOf es n ∧ FldL es l
theorem Flds.live {o : Obj} {l : List (Str × Value)} (h : Flds o l) : o.isFreed = false := by obtain ⟨_, _, rfl, _⟩ := h; rfl
/-- what stands at an address that turns -/
inductive Wo where
  | any
  | lst (vs : Array Value)
  | lsx (vs : Array Value)
  | cell (v : Option Value)
  | flds (l : List (Str × Value))
def WoAt (h : Heap) (a : Addr) : Wo → Prop
  | .any => ∃ o, h.get? a = some o
  | .lst vs => ∃ n, h.get? a = some { cls := .type "list", data := .seq vs n }
  | .lsx vs => h.IsList a vs
  | .cell v => h.IsCell a v
  | .flds l => ∃ o, h.get? a = some o ∧ Flds o l
theorem WoAt.at {h h' : Heap} {a : Addr} {o : Wo} (x : WoAt h a o) (e : ∀ o, h.get? a = some o → h'.get? a = some o) : WoAt h' a o := by
  cases o with
  | any => obtain ⟨n, hn⟩ := x; exact ⟨n, e _ hn⟩
  | lst vs => obtain ⟨n, hn⟩ := x; exact ⟨n, e _ hn⟩
  | lsx vs => obtain ⟨o, ho, hd⟩ := x; exact ⟨o, e _ ho, hd⟩
  | cell v => obtain ⟨o, ho, hd⟩ := x; exact ⟨o, e _ ho, hd⟩
  | flds l => obtain ⟨o, ho, hd⟩ := x; exact ⟨o, e _ ho, hd⟩
theorem WoAt.some {h : Heap} {a : Addr} {o : Wo} (x : WoAt h a o) : ∃ ob, h.get? a = some ob := by
  cases o with
  | any => exact x
  | lst vs => obtain ⟨n, hn⟩ := x; exact ⟨_, hn⟩
  | lsx vs => obtain ⟨o, ho, hd⟩ := x; exact ⟨_, ho⟩
  | cell v => obtain ⟨o, ho, hd⟩ := x; exact ⟨_, ho⟩
  | flds l => obtain ⟨o, ho, hd⟩ := x; exact ⟨_, ho⟩

abbrev Facts := List (List Value × List Da)
abbrev Own := List (Addr × Wo)
abbrev Loc := Str → Option Value

/-- what is known of a frame's names -/
def NsK (h : Heap) (L : Addr) (m : Loc) : Prop := ∃ m', h.Ns L m' ∧ ∀ x v, m x = some v → m' x = some v
theorem NsK.at {h h' : Heap} {L : Addr} {m : Loc} (x : NsK h L m) (e : ∀ o, h.get? L = some o → h'.get? L = some o) : NsK h' L m := by
  obtain ⟨m', ⟨o, es, ep, ho, r⟩, hm⟩ := x
  exact ⟨m', ⟨o, es, ep, e o ho, r⟩, hm⟩
theorem NsK.less {h : Heap} {L : Addr} {m m₀ : Loc} (x : NsK h L m) (e : ∀ y v, m₀ y = some v → m y = some v) : NsK h L m₀ := by
  obtain ⟨m', hn, hm⟩ := x
  exact ⟨m', hn, fun y v q => hm y v (e y v q)⟩
theorem NsK.of {h : Heap} {L : Addr} {m : Loc} (x : h.Ns L m) : NsK h L m := ⟨m, x, fun _ _ e => e⟩

/-- the state of a call: its locals at L, what it may turn, what is told of values -/
structure Mst (H0 : Heap) (B G₀ : Gr) (L : Addr) (m : Loc) (W : Own) (D : Facts) (h : Heap) : Prop where
  base : ∀ b o, H0.get? b = some o → B b = some o
  keep : ∀ b o, B b = some o → h.get? b = some o
  ns : NsK h L m
  bL : B L = none
  own : ∀ p ∈ W, WoAt h p.1 p.2 ∧ B p.1 = none ∧ p.1 ≠ L
  nd : (W.map (·.1)).Nodup
  gr : ∃ G : Gr, (∀ b o, G₀ b = some o → G b = some o) ∧ (∀ b o, G b = some o → h.get? b = some o) ∧ (∀ b o, G b = some o → G₀ b = some o ∨ B b = none) ∧ G L = none ∧
    (∀ p ∈ W, G p.1 = none) ∧ ∀ f ∈ D, DaAll G f.1 f.2

section
variable {H0 : Heap} {B G₀ : Gr} {L : Addr} {m m' : Loc} {W W' : Own} {D D' : Facts} {h : Heap}

theorem Mst.low (hM : Mst H0 B G₀ L m W D h) : ∀ b o, H0.get? b = some o → h.get? b = some o := fun b o e => hM.keep b o (hM.base b o e)
theorem Mst.hasL (hM : Mst H0 B G₀ L m W D h) : ∃ o, h.get? L = some o := by
  obtain ⟨_, ⟨o, _, _, ho, _⟩, _⟩ := hM.ns
  exact ⟨o, ho⟩

/-- one step on: the heap changed at L, at what may turn and at new places alone -/
theorem Mst.next (hM : Mst H0 B G₀ L m W D h) {h' : Heap} (Gx : Gr) (hns : NsK h' L m')
    (hk : ∀ b o, b ≠ L → (∀ p ∈ W, p.1 ≠ b) → h.get? b = some o → h'.get? b = some o)
    (hW : ∀ p ∈ W', WoAt h' p.1 p.2 ∧ Gx p.1 = none ∧ ((∃ q ∈ W, q.1 = p.1) ∨ h.get? p.1 = none))
    (hnd : (W'.map (·.1)).Nodup)
    (hx : ∀ b o, Gx b = some o → h'.get? b = some o ∧ ((∃ q ∈ W, q.1 = b) ∨ h.get? b = none))
    (hD : ∀ G : Gr, (∀ f ∈ D, DaAll G f.1 f.2) → (∀ b o, Gx b = some o → G b = some o) → ∀ f ∈ D', DaAll G f.1 f.2) :
    Mst H0 B G₀ L m' W' D' h' := by
  obtain ⟨G, g0, g1, g2, g3, g4, g5⟩ := hM.gr
  obtain ⟨oL, hoL⟩ := hM.hasL
  have bW : ∀ p ∈ W, B p.1 = none := fun p hp => (hM.own p hp).2.1
  have place : ∀ b, ((∃ q ∈ W, q.1 = b) ∨ h.get? b = none) → B b = none ∧ b ≠ L ∧ G b = none := by
    rintro b (⟨q, hq, rfl⟩ | hb)
    · exact ⟨bW q hq, (hM.own q hq).2.2, g4 q hq⟩
    · refine ⟨?_, ?_, ?_⟩
      · cases e : B b with
        | none => rfl
        | some o => rw [hM.keep b o e] at hb; cases hb
      · rintro rfl; rw [hoL] at hb; cases hb
      · cases e : G b with
        | none => rfl
        | some o => rw [g1 b o e] at hb; cases hb
  refine ⟨hM.base, fun b o e => ?_, hns, hM.bL, fun p hp => ⟨(hW p hp).1, (place _ (hW p hp).2.2).1, (place _ (hW p hp).2.2).2.1⟩, hnd, ?_⟩
  · refine hk b o ?_ ?_ (hM.keep b o e)
    · rintro rfl; rw [hM.bL] at e; cases e
    · rintro p hp rfl; rw [bW p hp] at e; cases e
  · have up : ∀ b o, G b = some o → (match Gx b with | some o => some o | none => G b) = some o := by
      intro b o e
      cases q : Gx b with
      | none => exact e
      | some o' =>
        have := (place b (hx b o' q).2).2.2
        rw [this] at e; cases e
    refine ⟨fun b => match Gx b with | some o => some o | none => G b, fun b o e => up b o (g0 b o e), fun b o e => ?_, fun b o e => ?_, ?_, fun p hp => ?_, ?_⟩
    · (try dsimp only at e)
      split at e
      · rename_i o' q; cases e; exact (hx b _ q).1
      · refine hk b o ?_ ?_ (g1 b o e)
        · rintro rfl; rw [g3] at e; cases e
        · rintro p hp rfl; rw [g4 p hp] at e; cases e
    · (try dsimp only at e)
      split at e
      · rename_i o' q; cases e; exact .inr (place b (hx b _ q).2).1
      · exact g2 b o e
    · (try dsimp only)
      cases q : Gx L with
      | none => exact g3
      | some o => exact absurd rfl (place L (hx L o q).2).2.1
    · (try dsimp only)
      rw [(hW p hp).2.1]
      exact (place _ (hW p hp).2.2).2.2
    · refine hD _ (fun f hf => (g5 f hf).mono up) fun b o e => ?_
      (try dsimp only)
      rw [e]

/-- other facts that follow -/
theorem Mst.facts (hM : Mst H0 B G₀ L m W D h) (hD : ∀ G : Gr, (∀ f ∈ D, DaAll G f.1 f.2) → ∀ f ∈ D', DaAll G f.1 f.2) : Mst H0 B G₀ L m W D' h := by
  obtain ⟨G, g0, g1, g2, g3, g4, g5⟩ := hM.gr
  exact ⟨hM.base, hM.keep, hM.ns, hM.bL, hM.own, hM.nd, G, g0, g1, g2, g3, g4, hD G g5⟩
theorem Mst.sub (hM : Mst H0 B G₀ L m W D h) (hD : ∀ f ∈ D', f ∈ D) : Mst H0 B G₀ L m W D' h := hM.facts fun _ g f hf => g f (hD f hf)
theorem Mst.with (hM : Mst H0 B G₀ L m W D h) {f : List Value × List Da} (hf : ∀ G : Gr, (∀ f ∈ D, DaAll G f.1 f.2) → DaAll G f.1 f.2) : Mst H0 B G₀ L m W (f :: D) h :=
  hM.facts fun G g f' hf' => (List.mem_cons.mp hf').elim (fun e => e ▸ hf G g) (g f')
/-- fewer names known -/
theorem Mst.names (hM : Mst H0 B G₀ L m W D h) (hm : ∀ x v, m' x = some v → m x = some v) : Mst H0 B G₀ L m' W D h :=
  ⟨hM.base, hM.keep, hM.ns.less hm, hM.bL, hM.own, hM.nd, hM.gr⟩
/-- fewer things that may turn -/
theorem Mst.less (hM : Mst H0 B G₀ L m W D h) (hs : ∀ p ∈ W', p ∈ W) (hnd : (W'.map (·.1)).Nodup) : Mst H0 B G₀ L m W' D h := by
  obtain ⟨G, g0, g1, g2, g3, g4, g5⟩ := hM.gr
  exact ⟨hM.base, hM.keep, hM.ns, hM.bL, fun p hp => hM.own p (hs p hp), hnd, G, g0, g1, g2, g3, fun p hp => g4 p (hs p hp), g5⟩
theorem Mst.drop {p : Addr × Wo} (hM : Mst H0 B G₀ L m (p :: W) D h) : Mst H0 B G₀ L m W D h :=
  hM.less (fun _ hp => .tail _ hp) (by have := hM.nd; rw [List.map_cons, List.nodup_cons] at this; exact this.2)

/-- a name is bound -/
theorem Mst.store (hM : Mst H0 B G₀ L m W D h) {h' : Heap} (hns : NsK h' L m') (hs : Heap.SameBut L h h') : Mst H0 B G₀ L m' W D h' :=
  hM.next (fun _ => none) hns (fun b o hb _ e => (hs.2 b hb).trans e) (fun p hp => ⟨(hM.own p hp).1.at fun o e => (hs.2 p.1 (hM.own p hp).2.2).trans e, rfl, .inl ⟨p, hp, rfl⟩⟩) hM.nd (fun _ _ e => by cases e) fun _ g _ => g

/-- a new object that stays as it is -/
theorem Mst.push (hM : Mst H0 B G₀ L m W D h) (o : Obj) (hf : o.isFreed = false) :
    Mst H0 B G₀ L m W (([.ref h.objs.size], [.obj o]) :: D) (h.push o) := by
  have hnew : h.get? h.objs.size = none := by
    cases e : h.get? h.objs.size with
    | none => rfl
    | some o' => exact absurd (Heap.lt_size e) (Nat.lt_irrefl _)
  refine hM.next (fun b => if b = h.objs.size then some o else none) (hM.ns.at fun o' e => Heap.get?_push_of_some o e) (fun b o' _ _ e => Heap.get?_push_of_some _ e) (fun p hp => ⟨(hM.own p hp).1.at fun o' e => Heap.get?_push_of_some _ e, ?_, .inl ⟨p, hp, rfl⟩⟩) hM.nd (fun b o' e => ?_) fun G g gx f hf' => ?_
  · obtain ⟨ob, ho⟩ := (hM.own p hp).1.some
    exact if_neg (Nat.ne_of_lt (Heap.lt_size ho))
  · (try dsimp only at e)
    split at e
    · rename_i hb; cases e; subst hb; exact ⟨Heap.get?_push_size _ hf, .inr hnew⟩
    · cases e
  · rcases List.mem_cons.mp hf' with rfl | hf'
    · exact .one (.obj (gx _ _ (if_pos rfl)))
    · exact g f hf'
/-- a new object that may turn -/
theorem Mst.make (hM : Mst H0 B G₀ L m W D h) (o : Obj) {w : Wo} (hw : ∀ h₁ : Heap, h₁.get? h.objs.size = some o → WoAt h₁ h.objs.size w) (hf : o.isFreed = false) :
    Mst H0 B G₀ L m ((h.objs.size, w) :: W) D (h.push o) := by
  have hnew : h.get? h.objs.size = none := by
    cases e : h.get? h.objs.size with
    | none => rfl
    | some o' => exact absurd (Heap.lt_size e) (Nat.lt_irrefl _)
  refine hM.next (fun _ => none) (hM.ns.at fun o' e => Heap.get?_push_of_some o e) (fun b o' _ _ e => Heap.get?_push_of_some _ e) (fun p hp => ?_) ?_ (fun _ _ e => by cases e) fun _ g _ => g
  · rcases List.mem_cons.mp hp with rfl | hp
    · exact ⟨hw _ (Heap.get?_push_size _ hf), rfl, .inr hnew⟩
    · exact ⟨(hM.own p hp).1.at fun o' e => Heap.get?_push_of_some _ e, rfl, .inl ⟨p, hp, rfl⟩⟩
  · rw [List.map_cons, List.nodup_cons]
    refine ⟨fun hm => ?_, hM.nd⟩
    obtain ⟨p, hp, e⟩ := List.mem_map.mp hm
    obtain ⟨ob, ho⟩ := (hM.own p hp).1.some
    exact absurd (Heap.lt_size ho) (by rw [e]; exact Nat.lt_irrefl _)
/-- what may turn has turned -/
theorem Mst.turn {pre post : Own} {a : Addr} {w w' : Wo} (hM : Mst H0 B G₀ L m (pre ++ (a, w) :: post) D h) {h' : Heap} (hw : WoAt h' a w')
    (hs : ∀ b o, b ≠ a → h.get? b = some o → h'.get? b = some o) : Mst H0 B G₀ L m (pre ++ (a, w') :: post) D h' := by
  have hin : (a, w) ∈ pre ++ (a, w) :: post := by simp
  have hnd := hM.nd
  have haL : L ≠ a := Ne.symm (hM.own _ hin).2.2
  refine hM.next (fun _ => none) ?_ (fun b o _ hb e => hs b o (Ne.symm (hb _ hin)) e) (fun p hp => ?_) ?_ (fun _ _ e => by cases e) fun _ g _ => g
  · exact hM.ns.at fun o ho => hs L o haL ho
  · rw [List.map_append, List.map_cons, List.nodup_append] at hnd
    obtain ⟨_, n2, n3⟩ := hnd
    rw [List.nodup_cons] at n2
    rcases List.mem_append.mp hp with hp | hp
    · have hm : p ∈ pre ++ (a, w) :: post := List.mem_append.mpr (.inl hp)
      refine ⟨(hM.own p hm).1.at fun o e => hs _ o ?_ e, rfl, .inl ⟨p, hm, rfl⟩⟩
      exact n3 p.1 (List.mem_map.mpr ⟨p, hp, rfl⟩) a (.head _)
    · rcases List.mem_cons.mp hp with rfl | hp
      · exact ⟨hw, rfl, .inl ⟨_, hin, rfl⟩⟩
      · have hm : p ∈ pre ++ (a, w) :: post := List.mem_append.mpr (.inr (.tail _ hp))
        refine ⟨(hM.own p hm).1.at fun o e => hs _ o ?_ e, rfl, .inl ⟨p, hm, rfl⟩⟩
        rintro e
        exact n2.1 (e ▸ List.mem_map.mpr ⟨p, hp, rfl⟩)
  · simpa using hM.nd
/-- what may turn turns no more -/
theorem Mst.freeze {a : Addr} {w : Wo} (hM : Mst H0 B G₀ L m ((a, w) :: W) D h) : ∃ o, h.get? a = some o ∧ Mst H0 B G₀ L m W (([.ref a], [.obj o]) :: D) h := by
  obtain ⟨hw, _⟩ := hM.own _ (.head _)
  obtain ⟨o, hn⟩ := hw.some
  refine ⟨o, hn, ?_⟩
  have hnd := hM.nd
  rw [List.map_cons, List.nodup_cons] at hnd
  refine hM.next (fun b => if b = a then some o else none) hM.ns (fun b o _ _ e => e) (fun p hp => ?_) hnd.2 (fun b o' e => ?_) fun G g gx f hf' => ?_
  · refine ⟨(hM.own p (.tail _ hp)).1, if_neg fun e => hnd.1 ?_, .inl ⟨p, .tail _ hp, rfl⟩⟩
    exact e ▸ List.mem_map.mpr ⟨p, hp, rfl⟩
  · (try dsimp only at e)
    split at e
    · rename_i hb; cases e; subst hb; exact ⟨hn, .inl ⟨_, .head _, rfl⟩⟩
    · cases e
  · rcases List.mem_cons.mp hf' with rfl | hf'
    · exact .one (.obj (gx _ _ (if_pos rfl)))
    · exact g f hf'
theorem DaAll.theObj {G : Gr} {a : Addr} {o : Obj} (h : DaAll G [.ref a] [.obj o]) : G a = some o := by
  cases h.head with
  | obj e => exact e
theorem Mst.freezeX {a : Addr} {vs : Array Value} {ds : List Da} (hM : Mst H0 B G₀ L m ((a, .lsx vs) :: W) D h) (hf : ∀ G : Gr, (∀ f ∈ D, DaAll G f.1 f.2) → DaAll G vs.toList ds) :
    Mst H0 B G₀ L m W (([.ref a], [.lst ds]) :: D) h := by
  obtain ⟨⟨o', ho', hl⟩, _⟩ := hM.own _ (.head _)
  obtain ⟨o, ho, hM'⟩ := hM.freeze
  replace ho' : h.get? a = some o' := ho'
  rw [ho] at ho'; cases ho'
  refine hM'.facts fun G g f hf' => ?_
  rcases List.mem_cons.mp hf' with rfl | hf'
  · exact .one (.lst (g _ (.head _)).theObj hl (hf G fun f h => g f (.tail _ h)))
  · exact g f (.tail _ hf')
/-- a list that turned, less told -/
theorem Mst.lsx {a : Addr} {vs : Array Value} (hM : Mst H0 B G₀ L m ((a, .lst vs) :: W) D h) : Mst H0 B G₀ L m ((a, .lsx vs) :: W) D h := by
  obtain ⟨⟨n, hn⟩, _⟩ := hM.own _ (.head _)
  exact hM.turn (pre := []) (w' := .lsx vs) ⟨_, hn, rfl, n, rfl⟩ fun _ _ _ e => e
theorem Mst.freezeL {a : Addr} {vs : Array Value} {ds : List Da} (hM : Mst H0 B G₀ L m ((a, .lst vs) :: W) D h) (hf : ∀ G : Gr, (∀ f ∈ D, DaAll G f.1 f.2) → DaAll G vs.toList ds) :
    Mst H0 B G₀ L m W (([.ref a], [.lst ds]) :: D) h := hM.lsx.freezeX hf
theorem Mst.freezeD {a : Addr} {l : List (Str × Value)} (hM : Mst H0 B G₀ L m ((a, .flds l) :: W) D h) : ∃ o, Flds o l ∧ Mst H0 B G₀ L m W (([.ref a], [.obj o]) :: D) h := by
  obtain ⟨⟨o', ho', hl⟩, _⟩ := hM.own _ (.head _)
  obtain ⟨o, ho, hM'⟩ := hM.freeze
  replace ho' : h.get? a = some o' := ho'
  rw [ho] at ho'; cases ho'
  exact ⟨_, hl, hM'⟩
/-- what is told, told of the heap itself -/
theorem Mst.told (hM : Mst H0 B G₀ L m W D h) : ∃ G : Gr, (∀ b o, G b = some o → h.get? b = some o) ∧ ∀ f ∈ D, DaAll G f.1 f.2 := by
  obtain ⟨G, _, g1, _, _, _, g5⟩ := hM.gr
  exact ⟨G, g1, g5⟩
end

section
variable {H0 : Heap} {B G₀ : Gr} {L L' : Addr} {m m₁ : Loc} {W W₁ W₂ W₃ : Own} {D D₁ : Facts} {h : Heap}

/-- a def is entered: its ground is the caller's, all else is kept from it but what it is handed -/
theorem Mst.enter (hM : Mst H0 B G₀ L m (W₁ ++ W₂) D h) {h' : Heap} (hL : h.get? L' = none) (hns : NsK h' L' m₁) (hk : ∀ b o, h.get? b = some o → h'.get? b = some o) :
    ∃ B' G' : Gr, Mst H0 B' G' L' m₁ W₂ D h' ∧
      ∀ m₂ W₃ D₁ (s₂ : Heap), Mst H0 B' G' L' m₂ W₃ D₁ s₂ → Mst H0 B G₀ L m (W₁ ++ W₃) D₁ s₂ := by
  obtain ⟨G, g0, g1, g2, g3, g4, g5⟩ := hM.gr
  obtain ⟨oL, hoL⟩ := hM.hasL
  have nd := hM.nd
  rw [List.map_append, List.nodup_append] at nd
  obtain ⟨n1, n2, n3⟩ := nd
  let B' : Gr := fun b => if b ∈ W₂.map (·.1) then none else h.get? b
  have bW : ∀ p ∈ W₁ ++ W₂, B p.1 = none := fun p hp => (hM.own p hp).2.1
  have gL' : G L' = none := by
    cases e : G L' with
    | none => rfl
    | some o => rw [g1 _ o e] at hL; cases hL
  have bL' : B' L' = none := by show (if L' ∈ _ then none else h.get? L') = none; split <;> first | rfl | exact hL
  have base : ∀ b o, H0.get? b = some o → B' b = some o := fun b o e => by
    have hb := hM.base b o e
    have : b ∉ W₂.map (·.1) := fun hm => by
      obtain ⟨p, hp, rfl⟩ := List.mem_map.mp hm
      rw [bW p (List.mem_append.mpr (.inr hp))] at hb; cases hb
    show (if b ∈ _ then none else h.get? b) = some o
    rw [if_neg this]; exact hM.keep b o hb
  refine ⟨B', G, ⟨base, fun b o e => ?_, hns, bL', fun p hp => ⟨?_, ?_, ?_⟩, n2, G, fun _ _ e => e, fun b o e => hk b o (g1 b o e), fun _ _ e => .inl e, gL', fun p hp => g4 p (List.mem_append.mpr (.inr hp)), g5⟩, ?_⟩
  · replace e : (if b ∈ _ then none else h.get? b) = some o := e
    split at e
    · cases e
    · exact hk b o e
  · exact (hM.own p (List.mem_append.mpr (.inr hp))).1.at fun o e => hk _ o e
  · show (if p.1 ∈ _ then none else h.get? p.1) = none
    rw [if_pos (List.mem_map.mpr ⟨p, hp, rfl⟩)]
  · rintro e
    obtain ⟨ob, ho⟩ := (hM.own p (List.mem_append.mpr (.inr hp))).1.some
    rw [e, hL] at ho; cases ho
  · intro m₂ W₃ D₁ s₂ hN
    obtain ⟨G', q0, q1, q2, q3, q4, q5⟩ := hN.gr
    have notW₂ : ∀ b, B b ≠ none → b ∉ W₂.map (·.1) := fun b hb hm => by
      obtain ⟨p, hp, rfl⟩ := List.mem_map.mp hm
      exact hb (bW p (List.mem_append.mpr (.inr hp)))
    have keepAll : ∀ b o, b ∉ W₂.map (·.1) → h.get? b = some o → s₂.get? b = some o := fun b o hb e => by
      refine hN.keep b o ?_
      show (if b ∈ _ then none else h.get? b) = some o
      rw [if_neg hb]; exact e
    have LW : L ∉ W₂.map (·.1) := fun hm => by
      obtain ⟨p, hp, e⟩ := List.mem_map.mp hm
      exact (hM.own p (List.mem_append.mpr (.inr hp))).2.2 e
    have BL' : B' L = some oL := by
      show (if L ∈ _ then none else h.get? L) = some oL
      rw [if_neg LW]; exact hoL
    have W1s : ∀ p ∈ W₁, p.1 ∉ W₂.map (·.1) := fun p hp hm => n3 p.1 (List.mem_map.mpr ⟨p, hp, rfl⟩) p.1 hm rfl
    have W1B : ∀ p ∈ W₁, ∃ o, B' p.1 = some o := fun p hp => by
      obtain ⟨ob, ho⟩ := (hM.own p (List.mem_append.mpr (.inl hp))).1.some
      refine ⟨ob, ?_⟩
      show (if p.1 ∈ _ then none else h.get? p.1) = some ob
      rw [if_neg (W1s p hp)]; exact ho
    have ofB' : ∀ b, B' b = none → B b = none ∧ b ≠ L := fun b hb => by
      refine ⟨?_, ?_⟩
      · cases e : B b with
        | none => rfl
        | some o =>
          have h1 := notW₂ b (by rw [e]; simp)
          have : B' b = some o := by
            show (if b ∈ _ then none else h.get? b) = some o
            rw [if_neg h1]; exact hM.keep b o e
          rw [this] at hb; cases hb
      · rintro rfl; rw [BL'] at hb; cases hb
    refine ⟨hM.base, fun b o e => keepAll b o (notW₂ b (by rw [e]; simp)) (hM.keep b o e), ?_, hM.bL, fun p hp => ?_, ?_, G', fun b o e => q0 b o (g0 b o e), q1, fun b o e => ?_, ?_, fun p hp => ?_, q5⟩
    · exact hM.ns.at fun o ho => keepAll L o LW ho
    · rcases List.mem_append.mp hp with hp | hp
      · exact ⟨(hM.own p (List.mem_append.mpr (.inl hp))).1.at fun o e => keepAll _ o (W1s p hp) e, (hM.own p (List.mem_append.mpr (.inl hp))).2⟩
      · have := hN.own p hp
        exact ⟨this.1, (ofB' _ this.2.1).1, (ofB' _ this.2.1).2⟩
    · rw [List.map_append, List.nodup_append]
      refine ⟨n1, hN.nd, fun a ha b hb e => ?_⟩
      subst e
      obtain ⟨p, hp, rfl⟩ := List.mem_map.mp ha
      obtain ⟨q, hq, e⟩ := List.mem_map.mp hb
      obtain ⟨o, ho⟩ := W1B p hp
      have := (hN.own q hq).2.1
      rw [e, ho] at this; cases this
    · rcases q2 b o e with e | e
      · exact g2 b o e
      · exact .inr (ofB' b e).1
    · cases e : G' L with
      | none => rfl
      | some o =>
        rcases q2 L o e with e | e
        · rw [g3] at e; cases e
        · rw [BL'] at e; cases e
    · rcases List.mem_append.mp hp with hp | hp
      · cases e : G' p.1 with
        | none => rfl
        | some o =>
          rcases q2 _ o e with e | e
          · rw [g4 p (List.mem_append.mpr (.inl hp))] at e; cases e
          · obtain ⟨o', ho⟩ := W1B p hp
            rw [ho] at e; cases e
      · exact q4 p hp

/-- a part of what may turn, and all the rest, is held still for a while -/
theorem Mst.frame (hM : Mst H0 B G₀ L m (W₁ ++ W₂) D h) :
    ∃ B' G' : Gr, Mst H0 B' G' L m W₂ D h ∧ (∀ b o, b ≠ L → (∀ p ∈ W₂, p.1 ≠ b) → h.get? b = some o → B' b = some o) ∧
      ∀ m₂ W₃ D₁ (s₂ : Heap), Mst H0 B' G' L m₂ W₃ D₁ s₂ → Mst H0 B G₀ L m₂ (W₁ ++ W₃) D₁ s₂ := by
  obtain ⟨G, g0, g1, g2, g3, g4, g5⟩ := hM.gr
  obtain ⟨oL, hoL⟩ := hM.hasL
  have nd := hM.nd
  rw [List.map_append, List.nodup_append] at nd
  obtain ⟨n1, n2, n3⟩ := nd
  let X : List Addr := L :: W₂.map (·.1)
  let B' : Gr := fun b => if b ∈ X then none else h.get? b
  have bW : ∀ p ∈ W₁ ++ W₂, B p.1 = none := fun p hp => (hM.own p hp).2.1
  have inX : ∀ b, b ∈ X → B b = none := fun b hb => by
    rcases List.mem_cons.mp hb with rfl | hb
    · exact hM.bL
    · obtain ⟨p, hp, rfl⟩ := List.mem_map.mp hb
      exact bW p (List.mem_append.mpr (.inr hp))
  have inXG : ∀ b, b ∈ X → G b = none := fun b hb => by
    rcases List.mem_cons.mp hb with rfl | hb
    · exact g3
    · obtain ⟨p, hp, rfl⟩ := List.mem_map.mp hb
      exact g4 p (List.mem_append.mpr (.inr hp))
  have base : ∀ b o, H0.get? b = some o → B' b = some o := fun b o e => by
    have hb := hM.base b o e
    have : b ∉ X := fun hm => by rw [inX b hm] at hb; cases hb
    show (if b ∈ _ then none else h.get? b) = some o
    rw [if_neg this]; exact hM.keep b o hb
  have ofX : ∀ b, b ∈ X → B' b = none := fun b hb => by show (if b ∈ X then none else h.get? b) = none; rw [if_pos hb]
  have offX : ∀ b o, b ∉ X → h.get? b = some o → B' b = some o := fun b o hb e => by show (if b ∈ X then none else h.get? b) = some o; rw [if_neg hb]; exact e
  refine ⟨B', G, ⟨base, fun b o e => ?_, hM.ns, ofX L (.head _), fun p hp => ⟨(hM.own p (List.mem_append.mpr (.inr hp))).1, ofX _ (.tail _ (List.mem_map.mpr ⟨p, hp, rfl⟩)), (hM.own p (List.mem_append.mpr (.inr hp))).2.2⟩, n2, G, fun _ _ e => e, g1, fun _ _ e => .inl e, g3, fun p hp => g4 p (List.mem_append.mpr (.inr hp)), g5⟩, fun b o hb hp e => ?_, ?_⟩
  · replace e : (if b ∈ X then none else h.get? b) = some o := e
    split at e
    · cases e
    · exact e
  · refine offX b o (fun hm => ?_) e
    rcases List.mem_cons.mp hm with rfl | hm
    · exact hb rfl
    · obtain ⟨p, hp', e⟩ := List.mem_map.mp hm
      exact hp p hp' e
  · intro m₂ W₃ D₁ s₂ hN
    obtain ⟨G', q0, q1, q2, q3, q4, q5⟩ := hN.gr
    have ofB' : ∀ b, B' b = none → B b = none := fun b hb => by
      cases e : B b with
      | none => rfl
      | some o =>
        have h1 : b ∉ X := fun hm => by rw [inX b hm] at e; cases e
        rw [offX b o h1 (hM.keep b o e)] at hb; cases hb
    have keepB : ∀ b o, B b = some o → s₂.get? b = some o := fun b o e => hN.keep b o (offX b o (fun hm => by rw [inX b hm] at e; cases e) (hM.keep b o e))
    have W1X : ∀ p ∈ W₁, p.1 ∉ X := fun p hp hm => by
      rcases List.mem_cons.mp hm with e | hm
      · exact (hM.own p (List.mem_append.mpr (.inl hp))).2.2 e
      · exact n3 p.1 (List.mem_map.mpr ⟨p, hp, rfl⟩) p.1 hm rfl
    have W1B : ∀ p ∈ W₁, ∃ o, B' p.1 = some o := fun p hp => by
      obtain ⟨ob, ho⟩ := (hM.own p (List.mem_append.mpr (.inl hp))).1.some
      exact ⟨ob, offX _ _ (W1X p hp) ho⟩
    refine ⟨hM.base, keepB, hN.ns, hM.bL, fun p hp => ?_, ?_, G', fun b o e => q0 b o (g0 b o e), q1, fun b o e => ?_, q3, fun p hp => ?_, q5⟩
    · rcases List.mem_append.mp hp with hp | hp
      · exact ⟨(hM.own p (List.mem_append.mpr (.inl hp))).1.at fun o e => hN.keep _ o (offX _ o (W1X p hp) e), (hM.own p (List.mem_append.mpr (.inl hp))).2⟩
      · have := hN.own p hp
        exact ⟨this.1, ofB' _ this.2.1, this.2.2⟩
    · rw [List.map_append, List.nodup_append]
      refine ⟨n1, hN.nd, fun a ha b hb e => ?_⟩
      subst e
      obtain ⟨p, hp, rfl⟩ := List.mem_map.mp ha
      obtain ⟨q, hq, e⟩ := List.mem_map.mp hb
      obtain ⟨o, ho⟩ := W1B p hp
      have := (hN.own q hq).2.1
      rw [e, ho] at this; cases this
    · rcases q2 b o e with e | e
      · exact g2 b o e
      · exact .inr (ofB' b e)
    · rcases List.mem_append.mp hp with hp | hp
      · cases e : G' p.1 with
        | none => rfl
        | some o =>
          rcases q2 _ o e with e | e
          · rw [g4 p (List.mem_append.mpr (.inl hp))] at e; cases e
          · obtain ⟨o', ho⟩ := W1B p hp
            rw [ho] at e; cases e
      · exact q4 p hp
end
end Mine
end
section
open PySem PySem.W PySem.Calls PySem.Spec PyProof.Rows
set_option Elab.async false
set_option maxRecDepth 100000
namespace Mine

def lk (l : List (Str × Value)) : Loc := fun x => l.lookup x

/-- what a block's environment is -/
structure EnvIs (env : Env) (L : Addr) (ns : List (Str × NameKind)) (cl : List (Str × Addr)) : Prop where
  locals : env.locals = L
  globals : env.globals = mainGlobals
  kind : env.scope.kind = .function
  names : env.scope.names = ns
  cells : env.cells = cl
  builtins : env.builtins = builtinsNs

/-- the room that a call still has -/
structure Rm (A : Around) (d u : Nat) : Prop where
  h : A.handled = none
  dp : A.depth + d < recursionLimit
  un : A.units + u < cLine
theorem Rm.in1 {A : Around} {d u : Nat} (r : Rm A d (u + 1)) : Rm A.in1 d u := ⟨r.h, r.dp, by have := r.un; show A.units + 1 + u < _; omega⟩
theorem Rm.deeper {A : Around} {env : Env} {d u : Nat} (r : Rm A (d + 1) (u + 3)) : Rm (A.deeper env) d u :=
  ⟨r.h, by have := r.dp; show A.depth + 1 + d < _; omega, by have := r.un; show A.units + 3 + u < _; omega⟩
theorem Rm.le {A : Around} {d d' u u' : Nat} (r : Rm A d u) (hd : d' ≤ d) (hu : u' ≤ u) : Rm A d' u' := ⟨r.h, by have := r.dp; omega, by have := r.un; omega⟩

/-- the ground of the run: the text's own objects, the names, no limit set -/
structure Gd (K : Frag) (H0 : Heap) : Prop where
  X : K.In H0
  top : ∃ p loose mean mg mb, Top p loose mean mg mb H0

def retOf (f : Flow) : Value := match f with | .ret v => v | _ => .none

/-- the end of a def's body: what is so here, and what is then so for the caller -/
def Back (H0 : Heap) (B G₀ : Gr) (L : Addr) (m : Loc) (W₁ : Own) (B' G' : Gr) (L' : Addr) (g : Array GenState) (d : Drawn) (os : OsState) (Q : Value → Shared → Prop) (v : Value) (s' : Shared) : Prop :=
  ∃ m' W' D' h' t', s' = ⟨h', g, d, t', os⟩ ∧ Mst H0 B' G' L' m' W' D' h' ∧ (Mst H0 B G₀ L m (W₁ ++ W') D' h' → Q v ⟨h', g, d, t', os⟩)

section
variable {prog : Program} {w : World} {A : Around} {E : Value → Shared → Prop} {K : Frag} {H0 : Heap} {B G₀ : Gr} {L : Addr} {m : Loc} {l : List (Str × Value)} {W W₁ W₂ : Own} {D : Facts} {h : Heap} {g : Array GenState} {d : Drawn} {t : Nat} {os : OsState} {env : Env} {ns : List (Str × NameKind)} {cl : List (Str × Addr)}

theorem m_end {B' G' : Gr} {L' : Addr} {m' : Loc} {W' : Own} {D' : Facts} {Q : Value → Shared → Prop} {v : Value} (hM : Mst H0 B' G' L' m' W' D' h) (q : Mst H0 B G₀ L m (W₁ ++ W') D' h → Q v ⟨h, g, d, t, os⟩) :
    Back H0 B G₀ L m W₁ B' G' L' g d os Q v ⟨h, g, d, t, os⟩ := ⟨_, _, _, _, _, rfl, hM, q⟩

/-! ## names -/
theorem m_ld {M : Model} {x : Str} {pos : Pos} {v : Value} {Q : Value → Shared → Prop} (hE : EnvIs env L ns cl) (hM : Mst H0 B G₀ L m W D h) (hv : m x = some v) (hl : ns.lookup x = some .local) (q : Q v ⟨h, g, d, t, os⟩)
    (hd : (x == ("__debug__" : Str)) = false := by decide) : wpAny M A (eval (.Name x pos) env) Q E ⟨h, g, d, t, os⟩ :=
  let ⟨_, hn, hm⟩ := hM.ns
  wpAny_Name (wpAny_loadName_local hE.kind (by unfold Env.kindOf; rw [hE.names]; exact hl) (hE.locals ▸ hn) (hm _ _ hv) q) hd
theorem m_ldn {M : Model} {x : Str} {v : Value} {Q : Value → Shared → Prop} (hE : EnvIs env L ns cl) (hM : Mst H0 B G₀ L m W D h) (hv : m x = some v) (hl : ns.lookup x = some .local) (q : Q v ⟨h, g, d, t, os⟩) :
    wpAny M A (loadName env x) Q E ⟨h, g, d, t, os⟩ :=
  let ⟨_, hn, hm⟩ := hM.ns
  wpAny_loadName_local hE.kind (by unfold Env.kindOf; rw [hE.names]; exact hl) (hE.locals ▸ hn) (hm _ _ hv) q
theorem m_gl {M : Model} {x : Str} {pos : Pos} {v : Value} {Q : Value → Shared → Prop} (hE : EnvIs env L ns cl) (gd : Gd K H0) (hM : Mst H0 B G₀ L m W D h) (hv : nsIn K mainGlobals x = some (some v)) (hl : ns.lookup x = some .globalImplicit) (q : Q v ⟨h, g, d, t, os⟩)
    (hd : (x == ("__debug__" : Str)) = false := by decide) : wpAny M A (eval (.Name x pos) env) Q E ⟨h, g, d, t, os⟩ := by
  obtain ⟨X, p, loose, mean, mg, mb, T⟩ := gd
  exact Name_function_global hE.kind (by unfold Env.kindOf; rw [hE.names]; exact hl) (loadGlobal_global (env := env) (by rw [hE.globals]; exact T.g.keeps hM.low) (mg_of X T.g hv) q) hd
theorem m_bi {M : Model} {x : Str} {pos : Pos} {v : Value} {Q : Value → Shared → Prop} (hE : EnvIs env L ns cl) (gd : Gd K H0) (hM : Mst H0 B G₀ L m W D h) (hv : nsIn K mainGlobals x = some none) (hw : bootBuiltins x = some v) (hn : x ≠ "__name__") (hl : ns.lookup x = some .globalImplicit) (q : Q v ⟨h, g, d, t, os⟩)
    (hd : (x == ("__debug__" : Str)) = false := by decide) : wpAny M A (eval (.Name x pos) env) Q E ⟨h, g, d, t, os⟩ := by
  obtain ⟨X, p, loose, mean, mg, mb, T⟩ := gd
  have T' := topRead_of T
  exact Name_function_global hE.kind (by unfold Env.kindOf; rw [hE.names]; exact hl) (loadGlobal_builtin (env := env) (by rw [hE.globals]; exact T'.g.keeps hM.low) (mg_none_of X T'.g hv) (by rw [hE.builtins]; exact T'.b.keeps hM.low) ((T'.builtins x hn).trans hw) q) hd
theorem m_st {M : Model} {x : Str} {v : Value} {Q : Unit → Shared → Prop} (hE : EnvIs env L ns cl) (hM : Mst H0 B G₀ L (lk l) W D h) (hl : ns.lookup x = some .local)
    (q : ∀ h' t', Mst H0 B G₀ L (lk ((x, v) :: l)) W D h' → Q () ⟨h', g, d, t', os⟩) : wpAny M A (storeName env x v) Q E ⟨h, g, d, t, os⟩ := by
  obtain ⟨m₀, hn₀, hm₀⟩ := hM.ns
  refine wpAny_storeName_local (by unfold Env.kindOf; rw [hE.names]; exact hl) (hE.locals ▸ hn₀) (fun h' hn hs => q h' _ ?_) (by rw [hE.kind]; rfl)
  rw [hE.locals] at hn hs
  refine hM.store ⟨_, hn, fun y u hy => ?_⟩ hs
  replace hy : List.lookup y ((x, v) :: l) = some u := hy
  show (if y = x then some v else m₀ y) = some u
  rw [List.lookup_cons] at hy
  by_cases hx : y = x
  · subst hx; simpa using hy
  · rw [if_neg hx]
    cases hb : y == x with
    | true => exact absurd (eq_of_beq hb) hx
    | false => rw [hb] at hy; exact hm₀ y u hy

/-! ## a def is entered -/
theorem m_defc {f : Addr} {name qual : Str} {params : Arguments} {body : List Stmt} {scope : Scope} {dV kV doc pm cdv ct oc : Value} {an od : Option Addr} {osl : Array (Option Value)} {vals : List Value} {kw : List (Str × Value)} {binds : List (Str × Value)} {R₀ : Result → Shared → Prop} {dd uu : Nat}
    (gd : Gd K H0) (hM : Mst H0 B G₀ L m (W₁ ++ W₂) D h) (hA : Rm A (dd + 1) (uu + 3))
    (ho : K.lookup f = some ⟨oc, od, .func (fnOf name qual params body scope dV kV doc pm an cdv ct), osl⟩) (hcd : codeIn K cdv qual = true)
    (hbind : BindsTo ⟨h, g, d, t, os⟩ (fnOf name qual params body scope dV kV doc pm an cdv ct) ⟨vals, kw⟩ binds) (hloc : binds.all (fun y => decide (scope.names.lookup y.1 = some .local)) = true)
    (q : ∀ env A' L' B' G' h' t' (R : Flow → Shared → Prop) E', EnvIs env L' scope.names [] → Rm A' dd uu → Mst H0 B' G' L' (lk binds.reverse) W₂ D h' →
      (∀ v s', Back H0 B G₀ L m W₁ B' G' L' g d os (fun v s => R₀ (.ok (.ret v)) s) v s' → R (.ret v) s') → (∀ s', Back H0 B G₀ L m W₁ B' G' L' g d os (fun v s => R₀ (.ok (.ret v)) s) .none s' → R .next s') →
      wpAny (model prog w) A' (execs body env) R E' ⟨h', g, d, t', os⟩)
    (hco : scope.isCoroutine = false := by rfl) (hgen : scope.isGenerator = false := by rfl) (hk : scope.kind = .function := by rfl)
    (hcell : ∀ x ∈ scope.names, x.2 ≠ .cell := by decide) : codeAny (model prog w) A (.call (.ref f) ⟨vals, kw⟩) R₀ ⟨h, g, d, t, os⟩ := by
  obtain ⟨X, p, loose, mean, mg, mb, T⟩ := gd
  have X' : K.In h := X.keeps hM.low
  refine codeAny_call_def (fd := fnOf name qual params body scope dV kV doc pm an cdv ct) (body := body) (binds := binds) (by have := hA.dp; omega) (X' _ _ ho) rfl (T.nolimit.keeps hM.low) (codeRec_of X' hcd) rfl hbind hcell (fun y hy => of_decide_eq_true (List.all_eq_true.mp hloc y hy)) (fun h₁ hns hk₁ => ?_) hco hgen hk
  have hL : h.get? h.objs.size = none := by
    cases e : h.get? h.objs.size with
    | none => rfl
    | some o => exact absurd (Heap.lt_size e) (Nat.lt_irrefl _)
  obtain ⟨B', G', hN, back⟩ := hM.enter (m₁ := lk binds.reverse) hL (.of hns) hk₁
  refine wpAny_mono (q (callEnv (fnOf name qual params body scope dV kV doc pm an cdv ct) h.objs.size f) _ h.objs.size B' G' h₁ (t + binds.length) (fun fl s' => Back H0 B G₀ L m W₁ B' G' h.objs.size g d os (fun v s => R₀ (.ok (.ret v)) s) (retOf fl) s') (fun _ _ => False) ⟨rfl, rfl, hk, rfl, rfl, rfl⟩ hA.deeper hN (fun _ _ z => z) fun _ z => z) (fun fl s' hs => ?_) fun _ _ z => z.elim
  obtain ⟨m', W', D', h', t', rfl, hM', hq⟩ := hs
  exact hq (back _ _ _ _ hM')
theorem m_def {f : Addr} {name qual : Str} {params : Arguments} {body : List Stmt} {scope : Scope} {dV kV doc pm cdv ct oc : Value} {an od : Option Addr} {osl : Array (Option Value)} {vals : List Value} {kw : List (Str × Value)} {binds : List (Str × Value)} {Q : Value → Shared → Prop} {dd uu : Nat}
    (gd : Gd K H0) (hM : Mst H0 B G₀ L m (W₁ ++ W₂) D h) (hA : Rm A (dd + 1) (uu + 3))
    (ho : K.lookup f = some ⟨oc, od, .func (fnOf name qual params body scope dV kV doc pm an cdv ct), osl⟩) (hcd : codeIn K cdv qual = true)
    (hbind : BindsTo ⟨h, g, d, t, os⟩ (fnOf name qual params body scope dV kV doc pm an cdv ct) ⟨vals, kw⟩ binds) (hloc : binds.all (fun y => decide (scope.names.lookup y.1 = some .local)) = true)
    (q : ∀ env A' L' B' G' h' t' (R : Flow → Shared → Prop) E', EnvIs env L' scope.names [] → Rm A' dd uu → Mst H0 B' G' L' (lk binds.reverse) W₂ D h' →
      (∀ v s', Back H0 B G₀ L m W₁ B' G' L' g d os Q v s' → R (.ret v) s') → (∀ s', Back H0 B G₀ L m W₁ B' G' L' g d os Q .none s' → R .next s') →
      wpAny (model prog w) A' (execs body env) R E' ⟨h', g, d, t', os⟩)
    (hco : scope.isCoroutine = false := by rfl) (hgen : scope.isGenerator = false := by rfl) (hk : scope.kind = .function := by rfl)
    (hcell : ∀ x ∈ scope.names, x.2 ≠ .cell := by decide) : wpAny (model prog w) A (call (.ref f) vals kw) Q E ⟨h, g, d, t, os⟩ :=
  wpAny_call (m_defc gd hM hA ho hcd hbind hloc q hco hgen hk hcell)
end
end Mine
end
section
open PySem PySem.W PySem.Calls PySem.Spec PyProof.Rows
set_option Elab.async false
set_option maxRecDepth 100000
namespace Mine

/-- the end of a loop's turn -/
def Turn (H0 : Heap) (B' G' : Gr) (L : Addr) (g : Array GenState) (d : Drawn) (os : OsState) (Q : Flow → Shared → Prop) (J : List (Str × Value) → Own → Facts → Prop) (f : Flow) (s' : Shared) : Prop :=
  match f with
  | .ret v => Q (.ret v) s'
  | .brk => Q .next s'
  | _ => ∃ l' W' D' h' t', s' = ⟨h', g, d, t', os⟩ ∧ Mst H0 B' G' L (lk l') W' D' h' ∧ J l' W' D'

/-- all names of a list are known -/
def Kn (m : Loc) : List (Str × Value) → Prop
  | [] => True
  | p :: r => m p.1 = some p.2 ∧ Kn m r
theorem lk_some : ∀ {l : List (Str × Value)} {x : Str} {v : Value}, lk l x = some v → (x, v) ∈ l
  | [], _, _, h => by cases h
  | p :: l, x, v, h => by
    replace h : List.lookup x (p :: l) = some v := h
    rw [List.lookup_cons] at h
    cases hb : x == p.1 with
    | true => rw [hb] at h; cases h; rw [eq_of_beq hb]; exact .head _
    | false => rw [hb] at h; exact .tail _ (lk_some h)
theorem Kn.all {m : Loc} : ∀ {l : List (Str × Value)}, Kn m l → ∀ p ∈ l, m p.1 = some p.2
  | _ :: _, ⟨h, _⟩, _, .head _ => h
  | _ :: _, ⟨_, r⟩, _, .tail _ hm => r.all _ hm

section
variable {prog : Program} {w : World} {A : Around} {E : Value → Shared → Prop} {K : Frag} {H0 : Heap} {B G₀ : Gr} {L : Addr} {m : Loc} {l : List (Str × Value)} {W W₁ W₂ : Own} {D : Facts} {h : Heap} {g : Array GenState} {d : Drawn} {t : Nat} {os : OsState} {env : Env} {ns : List (Str × NameKind)} {cl : List (Str × Addr)}

/-- fewer and other names: the ones that are written are known -/
theorem Mst.know (hM : Mst H0 B G₀ L m W D h) {l' : List (Str × Value)} (k : Kn m l') : Mst H0 B G₀ L (lk l') W D h :=
  hM.names fun x v hx => k.all (x, v) (lk_some hx)

theorem m_turn {B' G' : Gr} {Q : Flow → Shared → Prop} {J : List (Str × Value) → Own → Facts → Prop} {l' : List (Str × Value)} {W' : Own} {D' : Facts} (hM : Mst H0 B' G' L (lk l') W' D' h) (j : J l' W' D') :
    Turn H0 B' G' L g d os Q J .next ⟨h, g, d, t, os⟩ := ⟨_, _, _, _, _, rfl, hM, j⟩

/-- a loop over what an iterator hands out, by what holds between its turns -/
theorem for_core {o : Obj} {fp : List Addr} {n : Nat} {P : Nat → Value → Prop} {St : Nat → Heap → Prop} {target : Expr} {body : List Stmt} {R : Result → Shared → Prop} {Q : Flow → Shared → Prop} {l₀ : List (Str × Value)} {D₀ : Facts}
    (Wk : Walks prog w A h.objs.size fp [h.objs.size] n P St) (hfree : o.isFreed = false)
    (hob : ∀ i h', St i h' → ∃ o, h'.get? h.objs.size = some o)
    (hgo : ∀ i v h' t' (Q' : Unit → Shared → Prop) E', St (i + 1) h' → P i v → Q' () ⟨h', g, d, t', os⟩ → wpAny (model prog w) A (letOwnedTupleGo target (.ref h.objs.size) v) Q' E' ⟨h', g, d, t', os⟩)
    (hM : Mst H0 B G₀ L (lk l₀) (W₁ ++ W₂) D₀ h) (hst : St 0 (h.push o)) (hfp : ∀ b ∈ fp, b = h.objs.size ∨ ((∃ ob, h.get? b = some ob) ∧ b ≠ L ∧ ∀ p ∈ W₂, p.1 ≠ b))
    (J : Nat → List (Str × Value) → Own → Facts → Prop) (j0 : J 0 l₀ W₂ D₀)
    (turn : ∀ i v l₁ W' D' B' G' h' t' E', i < n → P i v → J i l₁ W' D' → Mst H0 B' G' L (lk l₁) W' D' h' →
      (∀ m₂ W₃ D₁ h₂, Mst H0 B' G' L m₂ W₃ D₁ h₂ → Mst H0 B G₀ L m₂ (W₁ ++ W₃) D₁ h₂) →
      wpAny (model prog w) A (assign target env v) (fun _ s₂ => wpAny (model prog w) A (execs body env) (Turn H0 B' G' L g d os Q (J (i + 1))) E' s₂) E' ⟨h', g, d, t', os⟩)
    (done : ∀ l₁ W' D' h' t', J n l₁ W' D' → Mst H0 B G₀ L (lk l₁) (W₁ ++ W') D' h' → Q .next ⟨h', g, d, t', os⟩)
    (hR : ∀ f s', Q f s' → R (.ok f) s') :
    codeAny (model prog w) A (.forLoop target (.ref h.objs.size) body [] env) R ⟨h.push o, g, d, t, os⟩ := by
  obtain ⟨B₁, G₁, hN₀, keep₁, back₁⟩ := Mst.frame (W₁ := W₁) (W₂ := W₂) hM
  have hN₁ : Mst H0 B₁ G₁ L (lk l₀) ((h.objs.size, .any) :: W₂) D₀ (h.push o) := hN₀.make o (w := .any) (fun h₁ e => ⟨_, e⟩) hfree
  have hfB : ∀ b ∈ fp, b = h.objs.size ∨ (b ≠ L ∧ ∃ ob, B₁ b = some ob) := fun b hb => by
    rcases hfp b hb with e | ⟨⟨ob, e1⟩, e2, e3⟩
    · exact .inl e
    · exact .inr ⟨e2, ob, keep₁ b ob e2 e3 e1⟩
  generalize h.objs.size = I at Wk hob hfB hN₁ hgo ⊢
  refine codeAny_forLoop_any (fun k s => ∃ i h' t' l₁ W' D', s = ⟨h', g, d, t', os⟩ ∧ Mst H0 B₁ G₁ L (lk l₁) ((I, .any) :: W') D' h' ∧ St i h' ∧ J i l₁ W' D' ∧ i ≤ n ∧ k = n + 1 - i) ?_ (n + 1)
    ⟨0, h.push o, t, l₀, W₂, D₀, rfl, hN₁, hst, j0, Nat.zero_le _, rfl⟩
  rintro k s ⟨i, h', t', l₁, W', D', rfl, hM', hst', hj, hi, rfl⟩
  by_cases hlt : i < n
  · refine Wk.item i _ _ _ hlt hst' fun v h₁ tk₁ hPv hst₁ hk₁ => ?_
    have hM₁ : Mst H0 B₁ G₁ L (lk l₁) ((I, .any) :: W') D' h₁ :=
      hM'.turn (pre := []) (hob _ _ hst₁) fun b o hb e => hk₁ b o (fun hm => hb (List.mem_singleton.mp hm)) e
    obtain ⟨B', G', hN, keep, back⟩ := Mst.frame (W₁ := [(I, .any)]) (W₂ := W') hM₁
    have hIL : I ≠ L := (hM₁.own _ (.head _)).2.2
    have hIW : ∀ p ∈ W', p.1 ≠ I := fun p hp e => by
      have := hM₁.nd
      rw [List.map_cons, List.nodup_cons] at this
      exact this.1 (e ▸ List.mem_map.mpr ⟨p, hp, rfl⟩)
    have kept : ∀ b ∈ fp, ∀ ob, h₁.get? b = some ob → B' b = some ob := fun b hb ob e => by
      rcases hfB b hb with rfl | ⟨e2, ob', e3⟩
      · exact keep _ ob hIL hIW e
      · refine keep b ob e2 (fun p hp q => ?_) e
        have := (hM₁.own p (.tail _ hp)).2.1
        rw [q, e3] at this; cases this
    refine hgo i v h₁ tk₁ _ _ hst₁ hPv ?_
    refine wpAny_mono (turn i v l₁ W' D' B' G' h₁ tk₁ _ hlt hPv hj hN fun m₂ W₃ D₁ h₂ hz => back₁ _ _ _ _ (Mst.drop (back _ _ _ _ hz))) (fun _ s₂ hs₂ => wpAny_mono hs₂ (fun f s' hf => ?_) fun _ _ z => z) fun _ _ z => z
    have go : (∃ l' W' D' h' t', s' = ⟨h', g, d, t', os⟩ ∧ Mst H0 B' G' L (lk l') W' D' h' ∧ J (i + 1) l' W' D') → ∃ mm, mm < n + 1 - i ∧ ∃ i h' t' l₁ W' D', s' = ⟨h', g, d, t', os⟩ ∧ Mst H0 B₁ G₁ L (lk l₁) ((I, .any) :: W') D' h' ∧ St i h' ∧ J i l₁ W' D' ∧ i ≤ n ∧ mm = n + 1 - i := by
      rintro ⟨l', W'', D'', h'', t'', rfl, hz, hj'⟩
      refine ⟨n + 1 - (i + 1), by omega, i + 1, h'', t'', l', W'', D'', rfl, back _ _ _ _ hz, Wk.frame _ _ _ hst₁ fun b hb ob e => hz.keep b ob (kept b hb ob e), hj', hlt, rfl⟩
    cases f with
    | ret v => exact hR _ _ hf
    | brk => exact hR _ _ hf
    | next => exact go hf
    | cont => exact go hf
  · have hin : i = n := by omega
    subst hin
    refine Wk.done _ _ _ hst' fun h₁ tk₁ hk₁ => ?_
    have hIx : ∀ b, b ∈ [I] → b = I := fun b hb => List.mem_singleton.mp hb
    have hM₁ : Mst H0 B₁ G₁ L (lk l₁) W' D' h₁ := by
      refine hM'.next (fun _ => none) (hM'.ns.at fun ob e => hk₁ L ob (fun hm => (hM'.own _ (.head _)).2.2 (hIx _ hm).symm) e) (fun b ob _ hb e => hk₁ b ob (fun hm => hb _ (.head _) (hIx _ hm).symm) e) (fun p hp => ⟨(hM'.own p (.tail _ hp)).1.at fun ob e => hk₁ _ ob (fun hm => ?_) e, rfl, .inl ⟨p, .tail _ hp, rfl⟩⟩) ?_ (fun _ _ e => by cases e) fun _ g _ => g
      · have := hM'.nd
        rw [List.map_cons, List.nodup_cons] at this
        exact this.1 ((hIx _ hm) ▸ List.mem_map.mpr ⟨p, hp, rfl⟩)
      · have := hM'.nd
        rw [List.map_cons, List.nodup_cons] at this
        exact this.2
    refine wpAny_execs_nil ?_
    exact hR _ _ (done l₁ W' D' h₁ tk₁ hj (back₁ _ _ _ _ hM₁))

/-- a fact about a list that stays: its items -/
theorem Mst.items {a : Addr} {ds : List Da} (hM : Mst H0 B G₀ L m W D h) (hf : ([.ref a], [.lst ds]) ∈ D) :
    ∃ vs : Array Value, h.IsList a vs ∧ (∀ p ∈ W, p.1 ≠ a) ∧ a ≠ L ∧ vs.size = ds.length ∧ Mst H0 B G₀ L m W ((vs.toList, ds) :: D) h := by
  obtain ⟨G, g0, g1, g2, g3, g4, g5⟩ := hM.gr
  have hd := (g5 _ hf).head
  cases hd with
  | lst ho hl hv =>
    refine ⟨_, ⟨_, g1 _ _ ho, hl⟩, fun p hp e => ?_, fun e => ?_, by simpa using hv.length, hM.base, hM.keep, hM.ns, hM.bL, hM.own, hM.nd, G, g0, g1, g2, g3, g4, ?_⟩
    · have := g4 p hp; rw [e, ho] at this; cases this
    · rw [← e, ho] at g3; cases g3
    · intro f hf'
      rcases List.mem_cons.mp hf' with rfl | hf'
      · exact hv
      · exact g5 f hf'
theorem Mst.titems {a : Addr} {ds : List Da} (hM : Mst H0 B G₀ L m W D h) (hf : ([.ref a], [.tup ds]) ∈ D) :
    ∃ vs : Array Value, h.IsTuple a vs ∧ (∀ p ∈ W, p.1 ≠ a) ∧ a ≠ L ∧ vs.size = ds.length ∧ Mst H0 B G₀ L m W ((vs.toList, ds) :: D) h := by
  obtain ⟨G, g0, g1, g2, g3, g4, g5⟩ := hM.gr
  have hd := (g5 _ hf).head
  cases hd with
  | tup ho hl hv =>
    refine ⟨_, ⟨_, g1 _ _ ho, hl⟩, fun p hp e => ?_, fun e => ?_, by simpa using hv.length, hM.base, hM.keep, hM.ns, hM.bL, hM.own, hM.nd, G, g0, g1, g2, g3, g4, ?_⟩
    · have := g4 p hp; rw [e, ho] at this; cases this
    · rw [← e, ho] at g3; cases g3
    · intro f hf'
      rcases List.mem_cons.mp hf' with rfl | hf'
      · exact hv
      · exact g5 f hf'

theorem m_iter_list {a : Addr} {vs : Array Value} {target : Expr} {body : List Stmt} {Q : Flow → Shared → Prop} {l₀ : List (Str × Value)} {D₀ : Facts} (hA : A.handled = none)
    (hM : Mst H0 B G₀ L (lk l₀) (W₁ ++ W₂) D₀ h) (hL : h.IsList a vs) (haL : a ≠ L) (haW : ∀ p ∈ W₂, p.1 ≠ a)
    (hgo : ∀ I l i h' t' v (Q' : Unit → Shared → Prop) E', h'.IsListIter I l i → Q' () ⟨h', g, d, t', os⟩ → wpAny (model prog w) A (letOwnedTupleGo target (.ref I) v) Q' E' ⟨h', g, d, t', os⟩)
    (J : Nat → List (Str × Value) → Own → Facts → Prop) (j0 : J 0 l₀ W₂ D₀)
    (turn : ∀ i v l₁ W' D' B' G' h' t' E', vs.toList[i]? = some v → J i l₁ W' D' → Mst H0 B' G' L (lk l₁) W' D' h' →
      (∀ m₂ W₃ D₁ h₂, Mst H0 B' G' L m₂ W₃ D₁ h₂ → Mst H0 B G₀ L m₂ (W₁ ++ W₃) D₁ h₂) →
      wpAny (model prog w) A (assign target env v) (fun _ s₂ => wpAny (model prog w) A (execs body env) (Turn H0 B' G' L g d os Q (J (i + 1))) E' s₂) E' ⟨h', g, d, t', os⟩)
    (done : ∀ l₁ W' D' h' t', J vs.size l₁ W' D' → Mst H0 B G₀ L (lk l₁) (W₁ ++ W') D' h' → Q .next ⟨h', g, d, t', os⟩) :
    wpAny (model prog w) A (pyIter (.ref a)) (fun it s₂ => codeAny (model prog w) A (.forLoop target it body [] env) (fun r s' => match r with | .ok f => Q f s' | .error e => cameBackBy (model prog w) A env E e s') s₂) E ⟨h, g, d, t, os⟩ := by
  obtain ⟨_, hn, _⟩ := id hL
  have hlt : a ≠ h.objs.size := Nat.ne_of_lt (Heap.lt_size hn)
  refine wpAny_pyIter_list hL ?_
  refine for_core (Walks.list hA _ a hlt vs) rfl (fun i h' hst => let ⟨o, ho, _⟩ := hst.1; ⟨o, ho⟩) (fun i v h' t' Q' E' hst _ hq => hgo _ _ _ _ _ _ _ _ hst.1 hq) hM
    ⟨⟨_, Heap.get?_push_size _ rfl, rfl, rfl⟩, hL.push _⟩ (fun b hb => ?_) J j0 (fun i v l₁ W' D' B' G' h' t' E' hi hP => turn i v l₁ W' D' B' G' h' t' E' (by simpa using hP)) done fun f s' hf => hf
  rcases List.mem_cons.mp hb with e | hb
  · exact .inl e
  · rw [List.mem_singleton.mp hb]; exact .inr ⟨⟨_, hn⟩, haL, haW⟩

/-- a name takes each item -/
theorem go_name {x : Str} {px : Pos} : ∀ I l i (h' : Heap) t' v (Q' : Unit → Shared → Prop) E', h'.IsListIter I l i → Q' () ⟨h', g, d, t', os⟩ → wpAny (model prog w) A (letOwnedTupleGo (.Name x px) (.ref I) v) Q' E' ⟨h', g, d, t', os⟩ :=
  fun _ _ _ _ _ _ _ _ _ hq => wpAny_pure hq
theorem as_name {M : Model} {x : Str} {px : Pos} {v : Value} {Q : Unit → Shared → Prop} (hE : EnvIs env L ns cl) (hM : Mst H0 B G₀ L (lk l) W D h) (hl : ns.lookup x = some .local)
    (q : ∀ h' t', Mst H0 B G₀ L (lk ((x, v) :: l)) W D h' → Q () ⟨h', g, d, t', os⟩) : wpAny M A (assign (.Name x px) env v) Q E ⟨h, g, d, t, os⟩ := wpAny_assign_Name (m_st hE hM hl q)

/-- two names take the two items of each tuple -/
theorem go_two {elts : List Expr} {k : Nat} {pt : Pos} : ∀ I l i (h' : Heap) t' v (Q' : Unit → Shared → Prop) E', h'.IsListIter I l i → Q' () ⟨h', g, d, t', os⟩ → wpAny (model prog w) A (letOwnedTupleGo (.Tuple elts k pt) (.ref I) v) Q' E' ⟨h', g, d, t', os⟩ := by
  intro I l i h' t' v Q' E' hit hq
  cases v with
  | ref T => exact wpAny_letOwnedTupleGo_listiter (s := ⟨h', g, d, t', os⟩) hit hq
  | _ => exact wpAny_pure hq

theorem m_iter_str {x : Str} {px : Pos} {y : Str} {ty : Tok} {body : List Stmt} {Q : Flow → Shared → Prop} {l₀ : List (Str × Value)} {D₀ : Facts} (hA : A.handled = none) (hE : EnvIs env L ns cl) (hl : ns.lookup x = some .local)
    (hM : Mst H0 B G₀ L (lk l₀) W₂ D₀ h)
    (J : Nat → List (Str × Value) → Own → Facts → Prop) (j0 : J 0 l₀ W₂ D₀)
    (turn : ∀ i (c : Nat) tc l₁ W' D' B' G' h' t' E', y.cps[i]? = some c → J i l₁ W' D' → Mst H0 B' G' L (lk ((x, .str ⟨#[c]⟩ tc) :: l₁)) W' D' h' →
      (∀ m₂ W₃ D₁ h₂, Mst H0 B' G' L m₂ W₃ D₁ h₂ → Mst H0 B G₀ L m₂ W₃ D₁ h₂) →
      wpAny (model prog w) A (execs body env) (Turn H0 B' G' L g d os Q (J (i + 1))) E' ⟨h', g, d, t', os⟩)
    (done : ∀ l₁ W' D' h' t', J y.cps.size l₁ W' D' → Mst H0 B G₀ L (lk l₁) W' D' h' → Q .next ⟨h', g, d, t', os⟩) :
    wpAny (model prog w) A (pyIter (.str y ty)) (fun it s₂ => codeAny (model prog w) A (.forLoop (.Name x px) it body [] env) (fun r s' => match r with | .ok f => Q f s' | .error e => cameBackBy (model prog w) A env E e s') s₂) E ⟨h, g, d, t, os⟩ := by
  have hM' : Mst H0 B G₀ L (lk l₀) ([] ++ W₂) D₀ h := hM
  have fp1 : ∀ b ∈ [h.objs.size], b = h.objs.size ∨ ((∃ ob, h.get? b = some ob) ∧ b ≠ L ∧ ∀ p ∈ W₂, p.1 ≠ b) := fun b hb => .inl (List.mem_singleton.mp hb)
  have tn : ∀ i v l₁ W' D' B' G' h' t' E', i < y.cps.size → SignAt y i v → J i l₁ W' D' → Mst H0 B' G' L (lk l₁) W' D' h' → (∀ m₂ W₃ D₁ h₂, Mst H0 B' G' L m₂ W₃ D₁ h₂ → Mst H0 B G₀ L m₂ ([] ++ W₃) D₁ h₂) →
      wpAny (model prog w) A (assign (.Name x px) env v) (fun _ s₂ => wpAny (model prog w) A (execs body env) (Turn H0 B' G' L g d os Q (J (i + 1))) E' s₂) E' ⟨h', g, d, t', os⟩ := by
    rintro i v l₁ W' D' B' G' h' t' E' _ ⟨c, u, hc, rfl⟩ hj hN back
    exact as_name hE hN hl fun h₂ t₂ hN₂ => turn i c u l₁ W' D' B' G' h₂ t₂ E' hc hj hN₂ back
  cases ha : y.cps.all (· < 128)
  · refine wpAny_pyIter_wide ha ?_
    exact for_core (Walks.strWide hA _ y ty) rfl (fun i h' ⟨o, ho, _⟩ => ⟨o, ho⟩) (fun i v h' t' Q' E' _ _ hq => wpAny_pure hq) hM' ⟨_, Heap.get?_push_size _ rfl, rfl, rfl⟩ fp1 J j0 tn done fun f s' hf => hf
  · refine wpAny_pyIter_ascii ha ?_
    exact for_core (Walks.strAscii hA _ y ty) rfl (fun i h' ⟨o, ho, _⟩ => ⟨o, ho⟩) (fun i v h' t' Q' E' _ _ hq => wpAny_pure hq) hM' ⟨_, Heap.get?_push_size _ rfl, rfl, rfl⟩ fp1 J j0 tn done fun f s' hf => hf

/-- a range's ints, one by one -/
theorem m_iter_range {x : Str} {px : Pos} {r : Addr} {a b : Int} {t₁ t₂ t₃ : Tok} {body : List Stmt} {Q : Flow → Shared → Prop} {l₀ : List (Str × Value)} {D₀ : Facts} (hA : A.handled = none) (hE : EnvIs env L ns cl) (hl : ns.lookup x = some .local)
    (hM : Mst H0 B G₀ L (lk l₀) W₂ D₀ h) (hr : IsRange h r a b 1 t₁ t₂ t₃) (hs : Builtin.Range.small a b 1 = true) (n : Nat) (hn : n = (b - a).toNat)
    (J : Nat → List (Str × Value) → Own → Facts → Prop) (j0 : J 0 l₀ W₂ D₀)
    (turn : ∀ (i : Nat) tc l₁ W' D' B' G' h' t' E', i < n → J i l₁ W' D' → Mst H0 B' G' L (lk ((x, .int (a + i) tc) :: l₁)) W' D' h' →
      (∀ m₂ W₃ D₁ h₂, Mst H0 B' G' L m₂ W₃ D₁ h₂ → Mst H0 B G₀ L m₂ W₃ D₁ h₂) →
      wpAny (model prog w) A (execs body env) (Turn H0 B' G' L g d os Q (J (i + 1))) E' ⟨h', g, d, t', os⟩)
    (done : ∀ l₁ W' D' h' t', J n l₁ W' D' → Mst H0 B G₀ L (lk l₁) W' D' h' → Q .next ⟨h', g, d, t', os⟩) :
    wpAny (model prog w) A (pyIter (.ref r)) (fun it s₂ => codeAny (model prog w) A (.forLoop (.Name x px) it body [] env) (fun r s' => match r with | .ok f => Q f s' | .error e => cameBackBy (model prog w) A env E e s') s₂) E ⟨h, g, d, t, os⟩ := by
  have hM' : Mst H0 B G₀ L (lk l₀) ([] ++ W₂) D₀ h := hM
  refine wpAny_pyIter_range hr hs ?_
  have hsz : Builtin.Range.rangeSize a b 1 = (n : Int) := by rw [rangeSize_one]; split <;> omega
  refine for_core (Walks.range hA _ a 1 n) rfl (fun i h' hst => ⟨_, hst⟩) (fun i v h' t' Q' E' _ _ hq => wpAny_pure hq) hM' ?_ (fun b hb => .inl (List.mem_singleton.mp hb)) J j0 ?_ done fun f s' hf => hf
  · have e1 : (a + ((0 : Nat) : Int) * 1) = a := by simp
    have e2 : ((n : Int) - ((0 : Nat) : Int)) = Builtin.Range.rangeSize a b 1 := by rw [hsz]; simp
    rw [e1, e2]
    exact Heap.get?_push_size _ rfl
  · rintro i v l₁ W' D' B' G' h' t' E' hi ⟨u, rfl⟩ hj hN back
    rw [Int.mul_one]
    exact as_name hE hN hl fun h₂ t₂ hN₂ => turn i u l₁ W' D' B' G' h₂ t₂ E' hi hj hN₂ back

/-- a while, by a number that falls -/
theorem m_while {test : Expr} {body : List Stmt} {pos : Pos} {Q : Flow → Shared → Prop} {l₀ : List (Str × Value)} {D₀ : Facts} (hM : Mst H0 B G₀ L (lk l₀) W₂ D₀ h)
    (J : Nat → List (Str × Value) → Own → Facts → Prop) (k : Nat) (j0 : J k l₀ W₂ D₀)
    (turn : ∀ k l₁ W' D' h' t' E', J k l₁ W' D' → Mst H0 B G₀ L (lk l₁) W' D' h' →
      wpAny (model prog w) A (isTrue test env (eval test env)) (fun b s₂ => if b then wpAny (model prog w) A (execs body env) (Turn H0 B G₀ L g d os Q (fun l W D => ∃ k', k' < k ∧ J k' l W D)) E' s₂ else Q .next s₂) E' ⟨h', g, d, t', os⟩) :
    wpAny (model prog w) A (exec (.While test body [] pos) env) Q E ⟨h, g, d, t, os⟩ := by
  refine wpAny_While (codeAny_whileLoop (fun k s => ∃ l₁ W' D' h' t', s = ⟨h', g, d, t', os⟩ ∧ Mst H0 B G₀ L (lk l₁) W' D' h' ∧ J k l₁ W' D') ?_ k ⟨_, _, _, _, _, rfl, hM, j0⟩)
  rintro k s ⟨l₁, W', D', h', t', rfl, hM', hj⟩
  refine wpAny_mono (turn k l₁ W' D' h' t' _ hj hM') (fun b s₂ hb => ?_) fun _ _ z => z
  cases b with
  | false => exact wpAny_execs_nil hb
  | true =>
    refine wpAny_mono hb (fun f s₃ hf => ?_) fun _ _ z => z
    have go : (∃ l' W' D' h' t', s₃ = ⟨h', g, d, t', os⟩ ∧ Mst H0 B G₀ L (lk l') W' D' h' ∧ ∃ k', k' < k ∧ J k' l' W' D') → ∃ mm, mm < k ∧ ∃ l₁ W' D' h' t', s₃ = ⟨h', g, d, t', os⟩ ∧ Mst H0 B G₀ L (lk l₁) W' D' h' ∧ J mm l₁ W' D' := by
      rintro ⟨l', W'', D'', h'', t'', rfl, hz, k', hk, hj'⟩
      exact ⟨k', hk, _, _, _, _, _, rfl, hz, hj'⟩
    cases f with
    | ret v => exact hf
    | brk => exact hf
    | next => exact go hf
    | cont => exact go hf
end
end Mine
end
section
open PySem PySem.W PySem.Calls PySem.Spec PyProof.Rows
set_option Elab.async false
set_option maxRecDepth 100000
set_option linter.unusedVariables false
namespace Mine
abbrev pw : Program := PySem.Challenge.pw_pe0285_01
abbrev sx (s : String) : Str := Str.ofString s
noncomputable def stAt (i : Nat) : Stmt := (pw.main.body[i]?).getD (.Pass default)
noncomputable def clAt (i j : Nat) : Stmt := match stAt i with
  | .ClassDef _ _ _ b .. => (b[j]?).getD (.Pass default)
  | _ => .Pass default
noncomputable def fnD (st : Stmt) (qual : Str) (dV kV doc pm : Value) (an : Option Addr) (cd ct : Value) : FuncData := match st with
  | .FunctionDef name args body _ _ _ scope _ _ _ => fnOf name qual args body scope dV kV doc pm an cd ct
  | _ => default
noncomputable def ko2 (P : Params) : Obj := ⟨.none, none, (.dict [⟨PyData.keyHash P (sx "\x69mport.loaded._sre"), (.str (sx "\x69mport.loaded._sre") 183), (.bool true)⟩, ⟨PyData.keyHash P (sx "class._frozen_importlib.BuiltinImporter"), (.str (sx "class._frozen_importlib.BuiltinImporter") 185), (.ref 14)⟩, ⟨PyData.keyHash P (sx "watched.\x69mport"), (.str (sx "watched.\x69mport") 206), (.ref 18)⟩, ⟨PyData.keyHash P (sx "class._frozen_importlib.ModuleSpec"), (.str (sx "class._frozen_importlib.ModuleSpec") 216), (.ref 22)⟩, ⟨PyData.keyHash P (sx "sys.modules.booked-epoch"), (.str (sx "sys.modules.booked-epoch") 245), (.int (3) 0)⟩, ⟨PyData.keyHash P (sx "\x69mport.later-laid._sre"), (.str (sx "\x69mport.later-laid._sre") 270), (.bool true)⟩, ⟨PyData.keyHash P (sx "watched.library"), (.str (sx "watched.library") 272), (.ref 27)⟩, ⟨PyData.keyHash P (sx "watched.library-objects"), (.str (sx "watched.library-objects") 0), (.str (sx "\x0c") 0)⟩, ⟨PyData.keyHash P (sx "watched.library-deep._sre"), (.str (sx "watched.library-deep._sre") 273), (.str (sx "\x04\x00\x00\x0b\x04\x00\x00\x0b\x04\x00\x00\x03\x04\x00\x00\x0b\x08\x04dict\x02") 0)⟩].toArray 9), [].toArray⟩
noncomputable def ko3 (P : Params) : Obj := ⟨(.type "dict"), none, (.dict [⟨PyData.keyHash P (sx "__name__"), (.str (sx "__name__") 165), (.str (sx "law_pe0285_01") 671)⟩, ⟨PyData.keyHash P (sx "__doc__"), (.str (sx "__doc__") 166), .none⟩, ⟨PyData.keyHash P (sx "__package__"), (.str (sx "__package__") 167), .none⟩, ⟨PyData.keyHash P (sx "__loader__"), (.str (sx "__loader__") 168), (.builtin "__main__.__loader__#opaque")⟩, ⟨PyData.keyHash P (sx "__spec__"), (.str (sx "__spec__") 169), .none⟩, ⟨PyData.keyHash P (sx "__annotations__"), (.str (sx "__annotations__") 170), (.ref 6)⟩, ⟨PyData.keyHash P (sx "__builtins__"), (.str (sx "__builtins__") 171), (.ref 4)⟩, ⟨PyData.keyHash P (sx "__file__"), (.str (sx "__file__") 173), (.str (sx "/claim/cut.py") 172)⟩, ⟨PyData.keyHash P (sx "__cached__"), (.str (sx "__cached__") 174), .none⟩, ⟨PyData.keyHash P (sx "_sre"), (.str (sx "_sre") 275), (.ref 12)⟩, ⟨PyData.keyHash P (sx "_wall"), (.str (sx "_wall") 288), (.ref 38)⟩, ⟨PyData.keyHash P (sx "ELLIPSIS_MARKER"), (.str (sx "ELLIPSIS_MARKER") 292), (.str (sx "...") 291)⟩, ⟨PyData.keyHash P (sx "_ellipsis_match"), (.str (sx "_ellipsis_match") 304), (.ref 45)⟩, ⟨PyData.keyHash P (sx "Whitespace"), (.str (sx "Whitespace") 406), (.ref 107)⟩, ⟨PyData.keyHash P (sx "tspecials"), (.str (sx "tspecials") 442), (.ref 116)⟩, ⟨PyData.keyHash P (sx "_name_disallowed_re"), (.str (sx "_name_disallowed_re") 468), (.ref 121)⟩, ⟨PyData.keyHash P (sx "_value_disallowed_re"), (.str (sx "_value_disallowed_re") 502), (.ref 126)⟩, ⟨PyData.keyHash P (sx "_formatparam"), (.str (sx "_formatparam") 512), (.ref 134)⟩, ⟨PyData.keyHash P (sx "Headers"), (.str (sx "Headers") 670), (.ref 255)⟩, ⟨PyData.keyHash P (sx "_law_steps"), (.str (sx "_law_steps") 683), (.ref 266)⟩, ⟨PyData.keyHash P (sx "_law_columns"), (.str (sx "_law_columns") 694), (.ref 273)⟩, ⟨PyData.keyHash P (sx "_law_kept"), (.str (sx "_law_kept") 700), (.ref 278)⟩, ⟨PyData.keyHash P (sx "_law_put"), (.str (sx "_law_put") 712), (.ref 285)⟩, ⟨PyData.keyHash P (sx "_law_table_is_right"), (.str (sx "_law_table_is_right") 718), (.ref 290)⟩, ⟨PyData.keyHash P (sx "_law_found"), (.str (sx "_law_found") 734), (.ref 297)⟩, ⟨PyData.keyHash P (sx "_law_at_an_end"), (.str (sx "_law_at_an_end") 745), (.ref 304)⟩, ⟨PyData.keyHash P (sx "_law_played"), (.str (sx "_law_played") 757), (.ref 311)⟩, ⟨PyData.keyHash P (sx "law"), (.str (sx "law") 763), (.ref 316)⟩].toArray 28), [].toArray⟩
noncomputable def ko44 (P : Params) : Obj := ⟨(.type "code"), none, (.fields [(.str (sx "_ellipsis_match") 293), (.str (sx "_ellipsis_match") 294), (.str (sx "/claim/cut.py") 295), (.int (7) 0), (.int (2) 0), (.int (0) 0), (.int (0) 0), (.int (3) 0), (.ref 39), (.bool true), (.int (276) 0), (.ref 40), .none, (.ref 41), (.ref 42), (.ref 43), (.int (302) 0), (.int (7) 0), (.str (sx "/claim/cut.py") 303)].toArray), [].toArray⟩
noncomputable def ko45 (P : Params) : Obj := ⟨(.type "function"), none, (.func (fnD (stAt 4) (sx "_ellipsis_match") .none .none .none (.str (sx "cpy313.doctest") 289) none (.ref 44) .none)), [].toArray⟩
noncomputable def ko61 (P : Params) : Obj := ⟨(.type "code"), none, (.fields [(.str (sx "__init__") 324), (.str (sx "Whitespace.__init__") 325), (.str (sx "/claim/cut.py") 326), (.int (39) 0), (.int (2) 0), (.int (0) 0), (.int (0) 0), (.int (3) 0), (.ref 56), (.bool true), (.int (276) 0), (.ref 57), .none, (.ref 58), (.ref 59), (.ref 60), (.int (336) 0), (.int (39) 0), (.str (sx "/claim/cut.py") 337)].toArray), [].toArray⟩
noncomputable def ko62 (P : Params) : Obj := ⟨(.type "function"), none, (.func (fnD (clAt 6 1) (sx "Whitespace.__init__") .none .none .none (.str (sx "cpy313.tabnanny") 305) none (.ref 61) .none)), [].toArray⟩
noncomputable def ko68 (P : Params) : Obj := ⟨(.type "code"), none, (.fields [(.str (sx "longest_run_of_spaces") 339), (.str (sx "Whitespace.longest_run_of_spaces") 340), (.str (sx "/claim/cut.py") 341), (.int (62) 0), (.int (1) 0), (.int (0) 0), (.int (0) 0), (.int (3) 0), (.ref 63), (.bool true), (.int (276) 0), (.ref 64), .none, (.ref 65), (.ref 66), (.ref 67), (.int (345) 0), (.int (62) 0), (.str (sx "/claim/cut.py") 346)].toArray), [].toArray⟩
noncomputable def ko69 (P : Params) : Obj := ⟨(.type "function"), none, (.func (fnD (clAt 6 2) (sx "Whitespace.longest_run_of_spaces") .none .none .none (.str (sx "cpy313.tabnanny") 305) none (.ref 68) .none)), [].toArray⟩
noncomputable def ko75 (P : Params) : Obj := ⟨(.type "code"), none, (.fields [(.str (sx "indent_level") 348), (.str (sx "Whitespace.indent_level") 349), (.str (sx "/claim/cut.py") 350), (.int (66) 0), (.int (2) 0), (.int (0) 0), (.int (0) 0), (.int (3) 0), (.ref 70), (.bool true), (.int (276) 0), (.ref 71), .none, (.ref 72), (.ref 73), (.ref 74), (.int (357) 0), (.int (66) 0), (.str (sx "/claim/cut.py") 358)].toArray), [].toArray⟩
noncomputable def ko76 (P : Params) : Obj := ⟨(.type "function"), none, (.func (fnD (clAt 6 3) (sx "Whitespace.indent_level") .none .none .none (.str (sx "cpy313.tabnanny") 305) none (.ref 75) .none)), [].toArray⟩
noncomputable def ko82 (P : Params) : Obj := ⟨(.type "code"), none, (.fields [(.str (sx "equal") 360), (.str (sx "Whitespace.equal") 361), (.str (sx "/claim/cut.py") 362), (.int (73) 0), (.int (2) 0), (.int (0) 0), (.int (0) 0), (.int (3) 0), (.ref 77), (.bool true), (.int (276) 0), (.ref 78), .none, (.ref 79), (.ref 80), (.ref 81), (.int (365) 0), (.int (73) 0), (.str (sx "/claim/cut.py") 366)].toArray), [].toArray⟩
noncomputable def ko83 (P : Params) : Obj := ⟨(.type "function"), none, (.func (fnD (clAt 6 4) (sx "Whitespace.equal") .none .none .none (.str (sx "cpy313.tabnanny") 305) none (.ref 82) .none)), [].toArray⟩
noncomputable def ko96 (P : Params) : Obj := ⟨(.type "code"), none, (.fields [(.str (sx "less") 376), (.str (sx "Whitespace.less") 377), (.str (sx "/claim/cut.py") 378), (.int (79) 0), (.int (2) 0), (.int (0) 0), (.int (0) 0), (.int (3) 0), (.ref 91), (.bool true), (.int (276) 0), (.ref 92), .none, (.ref 93), (.ref 94), (.ref 95), (.int (383) 0), (.int (79) 0), (.str (sx "/claim/cut.py") 384)].toArray), [].toArray⟩
noncomputable def ko97 (P : Params) : Obj := ⟨(.type "function"), none, (.func (fnD (clAt 6 6) (sx "Whitespace.less") .none .none .none (.str (sx "cpy313.tabnanny") 305) none (.ref 96) .none)), [].toArray⟩
noncomputable def ko106 (P : Params) : Obj := ⟨(.type "dict"), none, (.dict [⟨PyData.keyHash P (sx "__module__"), (.str (sx "__module__") 314), (.str (sx "cpy313.tabnanny") 305)⟩, ⟨PyData.keyHash P (sx "__firstlineno__"), (.str (sx "__firstlineno__") 318), (.int (36) 317)⟩, ⟨PyData.keyHash P (sx "S"), (.str (sx "S") 322), (.str (sx " ") 320)⟩, ⟨PyData.keyHash P (sx "T"), (.str (sx "T") 323), (.str (sx "\t") 321)⟩, ⟨PyData.keyHash P (sx "__init__"), (.str (sx "__init__") 338), (.ref 62)⟩, ⟨PyData.keyHash P (sx "longest_run_of_spaces"), (.str (sx "longest_run_of_spaces") 347), (.ref 69)⟩, ⟨PyData.keyHash P (sx "indent_level"), (.str (sx "indent_level") 359), (.ref 76)⟩, ⟨PyData.keyHash P (sx "equal"), (.str (sx "equal") 367), (.ref 83)⟩, ⟨PyData.keyHash P (sx "not_equal_witness"), (.str (sx "not_equal_witness") 375), (.ref 90)⟩, ⟨PyData.keyHash P (sx "less"), (.str (sx "less") 385), (.ref 97)⟩, ⟨PyData.keyHash P (sx "not_less_witness"), (.str (sx "not_less_witness") 393), (.ref 104)⟩, ⟨PyData.keyHash P (sx "__static_attributes__"), (.str (sx "__static_attributes__") 399), (.ref 105)⟩, ⟨PyData.keyHash P (sx "__dict__"), (.str (sx "__dict__") 401), (.ref 108)⟩, ⟨PyData.keyHash P (sx "__weakref__"), (.str (sx "__weakref__") 403), (.ref 109)⟩, ⟨PyData.keyHash P (sx "__doc__"), (.str (sx "__doc__") 404), .none⟩].toArray 4), [].toArray⟩
noncomputable def ko107 (P : Params) : Obj := ⟨(.type "type"), none, (.cls { name := (sx "Whitespace"), bases := [(.type "object")], mro := [(.ref 107), (.type "object")], ns := 106, qualname := (sx "Whitespace"), hasDict := true, slotNames := [], subclasses := [], abstract := false, collection := none, hasDel := false }), [none, none, some (.str (sx "Whitespace") 307), some (.str (sx "Whitespace") 315), some (.builtin "object.__new__"), some (.bool true)].toArray⟩
noncomputable def ko120 (P : Params) : Obj := ⟨(.type "tuple"), none, (.seq [(.int (14) 0), (.int (10) 0), (.int (4) 0), (.int (1) 0), (.int (1) 0), (.int (22) 0), (.int (0) 0), (.int (31) 0), (.int (16) 0), (.int (127) 0), (.int (0) 0), (.int (13) 0), (.int (7) 0), (.int (22) 0), (.int (0) 0), (.int (31) 0), (.int (16) 0), (.int (127) 0), (.int (0) 0), (.int (1) 0)].toArray 0), [].toArray⟩
noncomputable def ko121 (P : Params) : Obj := ⟨(.type "re.Pattern"), none, (.fields [(.str (sx "[\\x00-\\x1F\\x7F]") 444), (.int (32) 467), (.int (0) 0), .none, .none, (.ref 120), (.int (0) 0)].toArray), [].toArray⟩
noncomputable def ko125 (P : Params) : Obj := ⟨(.type "tuple"), none, (.seq [(.int (14) 0), (.int (14) 0), (.int (4) 0), (.int (1) 0), (.int (1) 0), (.int (9) 0), (.int (4294966783) 0), (.int (0) 0), (.int (0) 0), (.int (2147483648) 0), (.int (0) 0), (.int (0) 0), (.int (0) 0), (.int (0) 0), (.int (0) 0), (.int (13) 0), (.int (11) 0), (.int (9) 0), (.int (4294966783) 0), (.int (0) 0), (.int (0) 0), (.int (2147483648) 0), (.int (0) 0), (.int (0) 0), (.int (0) 0), (.int (0) 0), (.int (0) 0), (.int (1) 0)].toArray 0), [].toArray⟩
noncomputable def ko126 (P : Params) : Obj := ⟨(.type "re.Pattern"), none, (.fields [(.str (sx "[\\x00-\\x08\\x0A-\\x1F\\x7F]") 470), (.int (32) 501), (.int (0) 0), .none, .none, (.ref 125), (.int (0) 0)].toArray), [].toArray⟩
noncomputable def ko142 (P : Params) : Obj := ⟨(.type "tuple"), none, (.seq [.none].toArray 0), [].toArray⟩
noncomputable def ko148 (P : Params) : Obj := ⟨(.type "code"), none, (.fields [(.str (sx "__init__") 525), (.str (sx "Headers.__init__") 526), (.str (sx "/claim/cut.py") 527), (.int (107) 0), (.int (2) 0), (.int (0) 0), (.int (0) 0), (.int (3) 0), (.ref 143), (.bool true), (.int (276) 0), (.ref 144), .none, (.ref 145), (.ref 146), (.ref 147), (.int (532) 0), (.int (107) 0), (.str (sx "/claim/cut.py") 533)].toArray), [].toArray⟩
noncomputable def ko149 (P : Params) : Obj := ⟨(.type "function"), none, (.func (fnD (clAt 12 0) (sx "Headers.__init__") (.ref 142) .none .none (.str (sx "cpy313.wsgiref.headers") 407) none (.ref 148) .none)), [].toArray⟩
noncomputable def ko155 (P : Params) : Obj := ⟨(.type "code"), none, (.fields [(.str (sx "_convert_string_type") 535), (.str (sx "Headers._convert_string_type") 536), (.str (sx "/claim/cut.py") 537), (.int (117) 0), (.int (2) 0), (.int (0) 0), (.int (1) 0), (.int (3) 0), (.ref 150), (.bool true), (.int (276) 0), (.ref 151), .none, (.ref 152), (.ref 153), (.ref 154), (.int (542) 0), (.int (117) 0), (.str (sx "/claim/cut.py") 543)].toArray), [].toArray⟩
noncomputable def ko156 (P : Params) : Obj := ⟨(.type "function"), none, (.func (fnD (clAt 12 1) (sx "Headers._convert_string_type") .none .none .none (.str (sx "cpy313.wsgiref.headers") 407) none (.ref 155) .none)), [].toArray⟩
noncomputable def ko162 (P : Params) : Obj := ⟨(.type "code"), none, (.fields [(.str (sx "__len__") 545), (.str (sx "Headers.__len__") 546), (.str (sx "/claim/cut.py") 547), (.int (125) 0), (.int (1) 0), (.int (0) 0), (.int (0) 0), (.int (3) 0), (.ref 157), (.bool true), (.int (276) 0), (.ref 158), .none, (.ref 159), (.ref 160), (.ref 161), (.int (549) 0), (.int (125) 0), (.str (sx "/claim/cut.py") 550)].toArray), [].toArray⟩
noncomputable def ko163 (P : Params) : Obj := ⟨(.type "function"), none, (.func (fnD (clAt 12 2) (sx "Headers.__len__") .none .none .none (.str (sx "cpy313.wsgiref.headers") 407) none (.ref 162) .none)), [].toArray⟩
noncomputable def ko169 (P : Params) : Obj := ⟨(.type "code"), none, (.fields [(.str (sx "__setitem__") 552), (.str (sx "Headers.__setitem__") 553), (.str (sx "/claim/cut.py") 554), (.int (128) 0), (.int (3) 0), (.int (0) 0), (.int (0) 0), (.int (3) 0), (.ref 164), (.bool true), (.int (276) 0), (.ref 165), .none, (.ref 166), (.ref 167), (.ref 168), (.int (558) 0), (.int (128) 0), (.str (sx "/claim/cut.py") 559)].toArray), [].toArray⟩
noncomputable def ko170 (P : Params) : Obj := ⟨(.type "function"), none, (.func (fnD (clAt 12 3) (sx "Headers.__setitem__") .none .none .none (.str (sx "cpy313.wsgiref.headers") 407) none (.ref 169) .none)), [].toArray⟩
noncomputable def ko174 (P : Params) : Obj := ⟨(.type "code"), none, (.fields [(.str (sx "__delitem__") 561), (.str (sx "Headers.__delitem__") 562), (.str (sx "/claim/cut.py") 563), (.int (132) 0), (.int (2) 0), (.int (0) 0), (.int (0) 0), (.int (3) 0), (.ref 171), (.bool true), (.int (276) 0), (.ref 172), .none, .none, .none, (.ref 173), (.int (564) 0), (.int (132) 0), (.str (sx "/claim/cut.py") 565)].toArray), [].toArray⟩
noncomputable def ko175 (P : Params) : Obj := ⟨(.type "function"), none, (.func (fnD (clAt 12 4) (sx "Headers.__delitem__") .none .none .none (.str (sx "cpy313.wsgiref.headers") 407) none (.ref 174) .none)), [].toArray⟩
noncomputable def ko181 (P : Params) : Obj := ⟨(.type "code"), none, (.fields [(.str (sx "__getitem__") 567), (.str (sx "Headers.__getitem__") 568), (.str (sx "/claim/cut.py") 569), (.int (136) 0), (.int (2) 0), (.int (0) 0), (.int (0) 0), (.int (3) 0), (.ref 176), (.bool true), (.int (276) 0), (.ref 177), .none, (.ref 178), (.ref 179), (.ref 180), (.int (572) 0), (.int (136) 0), (.str (sx "/claim/cut.py") 573)].toArray), [].toArray⟩
noncomputable def ko182 (P : Params) : Obj := ⟨(.type "function"), none, (.func (fnD (clAt 12 5) (sx "Headers.__getitem__") .none .none .none (.str (sx "cpy313.wsgiref.headers") 407) none (.ref 181) .none)), [].toArray⟩
noncomputable def ko188 (P : Params) : Obj := ⟨(.type "code"), none, (.fields [(.str (sx "__contains__") 575), (.str (sx "Headers.__contains__") 576), (.str (sx "/claim/cut.py") 577), (.int (139) 0), (.int (2) 0), (.int (0) 0), (.int (0) 0), (.int (3) 0), (.ref 183), (.bool true), (.int (276) 0), (.ref 184), .none, (.ref 185), (.ref 186), (.ref 187), (.int (580) 0), (.int (139) 0), (.str (sx "/claim/cut.py") 581)].toArray), [].toArray⟩
noncomputable def ko189 (P : Params) : Obj := ⟨(.type "function"), none, (.func (fnD (clAt 12 6) (sx "Headers.__contains__") .none .none .none (.str (sx "cpy313.wsgiref.headers") 407) none (.ref 188) .none)), [].toArray⟩
noncomputable def ko193 (P : Params) : Obj := ⟨(.type "code"), none, (.fields [(.str (sx "get_all") 583), (.str (sx "Headers.get_all") 584), (.str (sx "/claim/cut.py") 585), (.int (142) 0), (.int (2) 0), (.int (0) 0), (.int (0) 0), (.int (3) 0), (.ref 190), (.bool true), (.int (276) 0), (.ref 191), .none, .none, .none, (.ref 192), (.int (586) 0), (.int (142) 0), (.str (sx "/claim/cut.py") 587)].toArray), [].toArray⟩
noncomputable def ko194 (P : Params) : Obj := ⟨(.type "function"), none, (.func (fnD (clAt 12 7) (sx "Headers.get_all") .none .none .none (.str (sx "cpy313.wsgiref.headers") 407) none (.ref 193) .none)), [].toArray⟩
noncomputable def ko195 (P : Params) : Obj := ⟨(.type "tuple"), none, (.seq [.none].toArray 0), [].toArray⟩
noncomputable def ko201 (P : Params) : Obj := ⟨(.type "code"), none, (.fields [(.str (sx "get") 589), (.str (sx "Headers.get") 590), (.str (sx "/claim/cut.py") 591), (.int (146) 0), (.int (3) 0), (.int (0) 0), (.int (0) 0), (.int (3) 0), (.ref 196), (.bool true), (.int (276) 0), (.ref 197), .none, (.ref 198), (.ref 199), (.ref 200), (.int (597) 0), (.int (146) 0), (.str (sx "/claim/cut.py") 598)].toArray), [].toArray⟩
noncomputable def ko202 (P : Params) : Obj := ⟨(.type "function"), none, (.func (fnD (clAt 12 8) (sx "Headers.get") (.ref 195) .none .none (.str (sx "cpy313.wsgiref.headers") 407) none (.ref 201) .none)), [].toArray⟩
noncomputable def ko206 (P : Params) : Obj := ⟨(.type "code"), none, (.fields [(.str (sx "keys") 600), (.str (sx "Headers.keys") 601), (.str (sx "/claim/cut.py") 602), (.int (153) 0), (.int (1) 0), (.int (0) 0), (.int (0) 0), (.int (3) 0), (.ref 203), (.bool true), (.int (276) 0), (.ref 204), .none, .none, .none, (.ref 205), (.int (603) 0), (.int (153) 0), (.str (sx "/claim/cut.py") 604)].toArray), [].toArray⟩
noncomputable def ko207 (P : Params) : Obj := ⟨(.type "function"), none, (.func (fnD (clAt 12 9) (sx "Headers.keys") .none .none .none (.str (sx "cpy313.wsgiref.headers") 407) none (.ref 206) .none)), [].toArray⟩
noncomputable def ko211 (P : Params) : Obj := ⟨(.type "code"), none, (.fields [(.str (sx "values") 606), (.str (sx "Headers.values") 607), (.str (sx "/claim/cut.py") 608), (.int (156) 0), (.int (1) 0), (.int (0) 0), (.int (0) 0), (.int (3) 0), (.ref 208), (.bool true), (.int (276) 0), (.ref 209), .none, .none, .none, (.ref 210), (.int (609) 0), (.int (156) 0), (.str (sx "/claim/cut.py") 610)].toArray), [].toArray⟩
noncomputable def ko212 (P : Params) : Obj := ⟨(.type "function"), none, (.func (fnD (clAt 12 10) (sx "Headers.values") .none .none .none (.str (sx "cpy313.wsgiref.headers") 407) none (.ref 211) .none)), [].toArray⟩
noncomputable def ko218 (P : Params) : Obj := ⟨(.type "code"), none, (.fields [(.str (sx "items") 612), (.str (sx "Headers.items") 613), (.str (sx "/claim/cut.py") 614), (.int (159) 0), (.int (1) 0), (.int (0) 0), (.int (0) 0), (.int (3) 0), (.ref 213), (.bool true), (.int (276) 0), (.ref 214), .none, (.ref 215), (.ref 216), (.ref 217), (.int (616) 0), (.int (159) 0), (.str (sx "/claim/cut.py") 617)].toArray), [].toArray⟩
noncomputable def ko219 (P : Params) : Obj := ⟨(.type "function"), none, (.func (fnD (clAt 12 11) (sx "Headers.items") .none .none .none (.str (sx "cpy313.wsgiref.headers") 407) none (.ref 218) .none)), [].toArray⟩
noncomputable def ko230 (P : Params) : Obj := ⟨(.type "code"), none, (.fields [(.str (sx "__str__") 626), (.str (sx "Headers.__str__") 627), (.str (sx "/claim/cut.py") 628), (.int (165) 0), (.int (1) 0), (.int (0) 0), (.int (0) 0), (.int (3) 0), (.ref 227), (.bool true), (.int (276) 0), (.ref 228), .none, .none, .none, (.ref 229), (.int (629) 0), (.int (165) 0), (.str (sx "/claim/cut.py") 630)].toArray), [].toArray⟩
noncomputable def ko231 (P : Params) : Obj := ⟨(.type "function"), none, (.func (fnD (clAt 12 13) (sx "Headers.__str__") .none .none .none (.str (sx "cpy313.wsgiref.headers") 407) none (.ref 230) .none)), [].toArray⟩
noncomputable def ko244 (P : Params) : Obj := ⟨(.type "code"), none, (.fields [(.str (sx "setdefault") 639), (.str (sx "Headers.setdefault") 640), (.str (sx "/claim/cut.py") 641), (.int (171) 0), (.int (3) 0), (.int (0) 0), (.int (0) 0), (.int (3) 0), (.ref 239), (.bool true), (.int (276) 0), (.ref 240), .none, (.ref 241), (.ref 242), (.ref 243), (.int (646) 0), (.int (171) 0), (.str (sx "/claim/cut.py") 647)].toArray), [].toArray⟩
noncomputable def ko245 (P : Params) : Obj := ⟨(.type "function"), none, (.func (fnD (clAt 12 15) (sx "Headers.setdefault") .none .none .none (.str (sx "cpy313.wsgiref.headers") 407) none (.ref 244) .none)), [].toArray⟩
noncomputable def ko251 (P : Params) : Obj := ⟨(.type "code"), none, (.fields [(.str (sx "add_header") 649), (.str (sx "Headers.add_header") 650), (.str (sx "/claim/cut.py") 651), (.int (179) 0), (.int (3) 0), (.int (0) 0), (.int (0) 0), (.int (11) 0), (.ref 246), (.bool true), (.int (276) 0), (.ref 247), .none, (.ref 248), (.ref 249), (.ref 250), (.int (659) 0), (.int (179) 0), (.str (sx "/claim/cut.py") 660)].toArray), [].toArray⟩
noncomputable def ko252 (P : Params) : Obj := ⟨(.type "function"), none, (.func (fnD (clAt 12 16) (sx "Headers.add_header") .none .none .none (.str (sx "cpy313.wsgiref.headers") 407) none (.ref 251) .none)), [].toArray⟩
noncomputable def ko254 (P : Params) : Obj := ⟨(.type "dict"), none, (.dict [⟨PyData.keyHash P (sx "__module__"), (.str (sx "__module__") 520), (.str (sx "cpy313.wsgiref.headers") 407)⟩, ⟨PyData.keyHash P (sx "__firstlineno__"), (.str (sx "__firstlineno__") 524), (.int (105) 523)⟩, ⟨PyData.keyHash P (sx "__init__"), (.str (sx "__init__") 534), (.ref 149)⟩, ⟨PyData.keyHash P (sx "_convert_string_type"), (.str (sx "_convert_string_type") 544), (.ref 156)⟩, ⟨PyData.keyHash P (sx "__len__"), (.str (sx "__len__") 551), (.ref 163)⟩, ⟨PyData.keyHash P (sx "__setitem__"), (.str (sx "__setitem__") 560), (.ref 170)⟩, ⟨PyData.keyHash P (sx "__delitem__"), (.str (sx "__delitem__") 566), (.ref 175)⟩, ⟨PyData.keyHash P (sx "__getitem__"), (.str (sx "__getitem__") 574), (.ref 182)⟩, ⟨PyData.keyHash P (sx "__contains__"), (.str (sx "__contains__") 582), (.ref 189)⟩, ⟨PyData.keyHash P (sx "get_all"), (.str (sx "get_all") 588), (.ref 194)⟩, ⟨PyData.keyHash P (sx "get"), (.str (sx "get") 599), (.ref 202)⟩, ⟨PyData.keyHash P (sx "keys"), (.str (sx "keys") 605), (.ref 207)⟩, ⟨PyData.keyHash P (sx "values"), (.str (sx "values") 611), (.ref 212)⟩, ⟨PyData.keyHash P (sx "items"), (.str (sx "items") 618), (.ref 219)⟩, ⟨PyData.keyHash P (sx "__repr__"), (.str (sx "__repr__") 625), (.ref 226)⟩, ⟨PyData.keyHash P (sx "__str__"), (.str (sx "__str__") 631), (.ref 231)⟩, ⟨PyData.keyHash P (sx "__bytes__"), (.str (sx "__bytes__") 638), (.ref 238)⟩, ⟨PyData.keyHash P (sx "setdefault"), (.str (sx "setdefault") 648), (.ref 245)⟩, ⟨PyData.keyHash P (sx "add_header"), (.str (sx "add_header") 661), (.ref 252)⟩, ⟨PyData.keyHash P (sx "__static_attributes__"), (.str (sx "__static_attributes__") 663), (.ref 253)⟩, ⟨PyData.keyHash P (sx "__dict__"), (.str (sx "__dict__") 665), (.ref 256)⟩, ⟨PyData.keyHash P (sx "__weakref__"), (.str (sx "__weakref__") 667), (.ref 257)⟩, ⟨PyData.keyHash P (sx "__doc__"), (.str (sx "__doc__") 668), .none⟩].toArray 4), [].toArray⟩
noncomputable def ko255 (P : Params) : Obj := ⟨(.type "type"), none, (.cls { name := (sx "Headers"), bases := [(.type "object")], mro := [(.ref 255), (.type "object")], ns := 254, qualname := (sx "Headers"), hasDict := true, slotNames := [], subclasses := [], abstract := false, collection := none, hasDel := false }), [none, none, some (.str (sx "Headers") 513), some (.str (sx "Headers") 521), some (.builtin "object.__new__"), some (.bool true)].toArray⟩
noncomputable def ko265 (P : Params) : Obj := ⟨(.type "code"), none, (.fields [(.str (sx "_law_steps") 673), (.str (sx "_law_steps") 674), (.str (sx "/claim/cut.py") 675), (.int (193) 0), (.int (1) 0), (.int (0) 0), (.int (0) 0), (.int (3) 0), (.ref 260), (.bool true), (.int (276) 0), (.ref 261), .none, (.ref 262), (.ref 263), (.ref 264), (.int (681) 0), (.int (193) 0), (.str (sx "/claim/cut.py") 682)].toArray), [].toArray⟩
noncomputable def ko266 (P : Params) : Obj := ⟨(.type "function"), none, (.func (fnD (stAt 14) (sx "_law_steps") .none .none .none (.str (sx "law_pe0285_01") 671) none (.ref 265) .none)), [].toArray⟩
noncomputable def ko272 (P : Params) : Obj := ⟨(.type "code"), none, (.fields [(.str (sx "_law_columns") 684), (.str (sx "_law_columns") 685), (.str (sx "/claim/cut.py") 686), (.int (200) 0), (.int (1) 0), (.int (0) 0), (.int (0) 0), (.int (3) 0), (.ref 267), (.bool true), (.int (276) 0), (.ref 268), .none, (.ref 269), (.ref 270), (.ref 271), (.int (692) 0), (.int (200) 0), (.str (sx "/claim/cut.py") 693)].toArray), [].toArray⟩
noncomputable def ko273 (P : Params) : Obj := ⟨(.type "function"), none, (.func (fnD (stAt 15) (sx "_law_columns") .none .none .none (.str (sx "law_pe0285_01") 671) none (.ref 272) .none)), [].toArray⟩
noncomputable def ko277 (P : Params) : Obj := ⟨(.type "code"), none, (.fields [(.str (sx "_law_kept") 695), (.str (sx "_law_kept") 696), (.str (sx "/claim/cut.py") 697), (.int (210) 0), (.int (3) 0), (.int (0) 0), (.int (0) 0), (.int (3) 0), (.ref 274), (.bool true), (.int (276) 0), (.ref 275), .none, .none, .none, (.ref 276), (.int (698) 0), (.int (210) 0), (.str (sx "/claim/cut.py") 699)].toArray), [].toArray⟩
noncomputable def ko278 (P : Params) : Obj := ⟨(.type "function"), none, (.func (fnD (stAt 16) (sx "_law_kept") .none .none .none (.str (sx "law_pe0285_01") 671) none (.ref 277) .none)), [].toArray⟩
noncomputable def ko284 (P : Params) : Obj := ⟨(.type "code"), none, (.fields [(.str (sx "_law_put") 701), (.str (sx "_law_put") 702), (.str (sx "/claim/cut.py") 703), (.int (220) 0), (.int (3) 0), (.int (0) 0), (.int (0) 0), (.int (3) 0), (.ref 279), (.bool true), (.int (276) 0), (.ref 280), .none, (.ref 281), (.ref 282), (.ref 283), (.int (710) 0), (.int (220) 0), (.str (sx "/claim/cut.py") 711)].toArray), [].toArray⟩
noncomputable def ko285 (P : Params) : Obj := ⟨(.type "function"), none, (.func (fnD (stAt 17) (sx "_law_put") .none .none .none (.str (sx "law_pe0285_01") 671) none (.ref 284) .none)), [].toArray⟩
noncomputable def ko289 (P : Params) : Obj := ⟨(.type "code"), none, (.fields [(.str (sx "_law_table_is_right") 713), (.str (sx "_law_table_is_right") 714), (.str (sx "/claim/cut.py") 715), (.int (232) 0), (.int (2) 0), (.int (0) 0), (.int (0) 0), (.int (3) 0), (.ref 286), (.bool true), (.int (276) 0), (.ref 287), .none, .none, .none, (.ref 288), (.int (716) 0), (.int (232) 0), (.str (sx "/claim/cut.py") 717)].toArray), [].toArray⟩
noncomputable def ko290 (P : Params) : Obj := ⟨(.type "function"), none, (.func (fnD (stAt 18) (sx "_law_table_is_right") .none .none .none (.str (sx "law_pe0285_01") 671) none (.ref 289) .none)), [].toArray⟩
noncomputable def ko296 (P : Params) : Obj := ⟨(.type "code"), none, (.fields [(.str (sx "_law_found") 719), (.str (sx "_law_found") 720), (.str (sx "/claim/cut.py") 721), (.int (247) 0), (.int (4) 0), (.int (0) 0), (.int (0) 0), (.int (3) 0), (.ref 291), (.bool true), (.int (276) 0), (.ref 292), .none, (.ref 293), (.ref 294), (.ref 295), (.int (732) 0), (.int (247) 0), (.str (sx "/claim/cut.py") 733)].toArray), [].toArray⟩
noncomputable def ko297 (P : Params) : Obj := ⟨(.type "function"), none, (.func (fnD (stAt 19) (sx "_law_found") .none .none .none (.str (sx "law_pe0285_01") 671) none (.ref 296) .none)), [].toArray⟩
noncomputable def ko303 (P : Params) : Obj := ⟨(.type "code"), none, (.fields [(.str (sx "_law_at_an_end") 735), (.str (sx "_law_at_an_end") 736), (.str (sx "/claim/cut.py") 737), (.int (257) 0), (.int (3) 0), (.int (0) 0), (.int (0) 0), (.int (3) 0), (.ref 298), (.bool true), (.int (276) 0), (.ref 299), .none, (.ref 300), (.ref 301), (.ref 302), (.int (743) 0), (.int (257) 0), (.str (sx "/claim/cut.py") 744)].toArray), [].toArray⟩
noncomputable def ko304 (P : Params) : Obj := ⟨(.type "function"), none, (.func (fnD (stAt 20) (sx "_law_at_an_end") .none .none .none (.str (sx "law_pe0285_01") 671) none (.ref 303) .none)), [].toArray⟩
noncomputable def ko310 (P : Params) : Obj := ⟨(.type "code"), none, (.fields [(.str (sx "_law_played") 746), (.str (sx "_law_played") 747), (.str (sx "/claim/cut.py") 748), (.int (267) 0), (.int (2) 0), (.int (0) 0), (.int (0) 0), (.int (3) 0), (.ref 305), (.bool true), (.int (276) 0), (.ref 306), .none, (.ref 307), (.ref 308), (.ref 309), (.int (755) 0), (.int (267) 0), (.str (sx "/claim/cut.py") 756)].toArray), [].toArray⟩
noncomputable def ko311 (P : Params) : Obj := ⟨(.type "function"), none, (.func (fnD (stAt 21) (sx "_law_played") .none .none .none (.str (sx "law_pe0285_01") 671) none (.ref 310) .none)), [].toArray⟩
noncomputable def ko315 (P : Params) : Obj := ⟨(.type "code"), none, (.fields [(.str (sx "law") 758), (.str (sx "law") 759), (.str (sx "/claim/cut.py") 760), (.int (274) 0), (.int (1) 0), (.int (0) 0), (.int (0) 0), (.int (3) 0), (.ref 312), (.bool true), (.int (276) 0), (.ref 313), .none, .none, .none, (.ref 314), (.int (761) 0), (.int (274) 0), (.str (sx "/claim/cut.py") 762)].toArray), [].toArray⟩
noncomputable def ko316 (P : Params) : Obj := ⟨(.type "function"), none, (.func (fnD (stAt 22) (sx "law") .none .none .none (.str (sx "law_pe0285_01") 671) none (.ref 315) .none)), [].toArray⟩
noncomputable def KF (P : Params) : Frag := [(2, ko2 P), (3, ko3 P), (44, ko44 P), (45, ko45 P), (61, ko61 P), (62, ko62 P), (68, ko68 P), (69, ko69 P), (75, ko75 P), (76, ko76 P), (82, ko82 P), (83, ko83 P), (96, ko96 P), (97, ko97 P), (106, ko106 P), (107, ko107 P), (120, ko120 P), (121, ko121 P), (125, ko125 P), (126, ko126 P), (142, ko142 P), (148, ko148 P), (149, ko149 P), (155, ko155 P), (156, ko156 P), (162, ko162 P), (163, ko163 P), (169, ko169 P), (170, ko170 P), (174, ko174 P), (175, ko175 P), (181, ko181 P), (182, ko182 P), (188, ko188 P), (189, ko189 P), (193, ko193 P), (194, ko194 P), (195, ko195 P), (201, ko201 P), (202, ko202 P), (206, ko206 P), (207, ko207 P), (211, ko211 P), (212, ko212 P), (218, ko218 P), (219, ko219 P), (230, ko230 P), (231, ko231 P), (244, ko244 P), (245, ko245 P), (251, ko251 P), (252, ko252 P), (254, ko254 P), (255, ko255 P), (265, ko265 P), (266, ko266 P), (272, ko272 P), (273, ko273 P), (277, ko277 P), (278, ko278 P), (284, ko284 P), (285, ko285 P), (289, ko289 P), (290, ko290 P), (296, ko296 P), (297, ko297 P), (303, ko303 P), (304, ko304 P), (310, ko310 P), (311, ko311 P), (315, ko315 P), (316, ko316 P)]
def KFas : List Addr := [2, 3, 44, 45, 61, 62, 68, 69, 75, 76, 82, 83, 96, 97, 106, 107, 120, 121, 125, 126, 142, 148, 149, 155, 156, 162, 163, 169, 170, 174, 175, 181, 182, 188, 189, 193, 194, 195, 201, 202, 206, 207, 211, 212, 218, 219, 230, 231, 244, 245, 251, 252, 254, 255, 265, 266, 272, 273, 277, 278, 284, 285, 289, 290, 296, 297, 303, 304, 310, 311, 315, 316]
end Mine
end
section
open PySem PySem.W PySem.Calls PySem.Spec PyProof.Rows
set_option Elab.async false
set_option maxRecDepth 100000
namespace Mine

/-- one of the things that may turn, turned -/
inductive WUp (a : Addr) (w w' : Wo) : Own → Own → Prop
  | head {r : Own} : WUp a w w' ((a, w) :: r) ((a, w') :: r)
  | tail {p : Addr × Wo} {r r' : Own} : WUp a w w' r r' → WUp a w w' (p :: r) (p :: r')
theorem WUp.split {a : Addr} {w w' : Wo} : ∀ {l l' : Own}, WUp a w w' l l' → ∃ pre post, l = pre ++ (a, w) :: post ∧ l' = pre ++ (a, w') :: post
  | _, _, .head => ⟨[], _, rfl, rfl⟩
  | _, _, .tail (p := p) h => let ⟨pre, post, e, e'⟩ := h.split; ⟨p :: pre, post, by rw [e]; rfl, by rw [e']; rfl⟩
theorem Mst.up {H0 : Heap} {B G₀ : Gr} {L : Addr} {m : Loc} {W W' : Own} {D : Facts} {h h' : Heap} {a : Addr} {w w' : Wo} (hM : Mst H0 B G₀ L m W D h) (u : WUp a w w' W W') (hw : WoAt h' a w')
    (hs : ∀ b o, b ≠ a → h.get? b = some o → h'.get? b = some o) : Mst H0 B G₀ L m W' D h' := by
  obtain ⟨pre, post, rfl, rfl⟩ := u.split
  exact hM.turn hw hs
theorem WUp.mem {a : Addr} {w w' : Wo} {l l' : Own} (u : WUp a w w' l l') : (a, w) ∈ l := by
  obtain ⟨pre, post, rfl, _⟩ := u.split
  simp

section
variable {prog : Program} {w : World} {A : Around} {E : Value → Shared → Prop} {K : Frag} {H0 : Heap} {B G₀ : Gr} {L : Addr} {m : Loc} {l : List (Str × Value)} {W W' : Own} {D : Facts} {h : Heap} {g : Array GenState} {d : Drawn} {t : Nat} {os : OsState} {env : Env} {ns : List (Str × NameKind)} {cl : List (Str × Addr)}

/-! ## constants, ints -/
theorem m_int {M : Model} {i : Int} {k : Nat} {pos : Pos} {Q : Value → Shared → Prop} (q : Q (.int i t) ⟨h, g, d, t + 1, os⟩) : wpAny M A (eval (.Constant (.int i) k pos) env) Q E ⟨h, g, d, t, os⟩ := wpAny_Constant_int q
theorem m_str {M : Model} {x : Str} {k : Nat} {pos : Pos} {Q : Value → Shared → Prop} (q : Q (.str x t) ⟨h, g, d, t + 1, os⟩) : wpAny M A (eval (.Constant (.str x) k pos) env) Q E ⟨h, g, d, t, os⟩ := wpAny_Constant_str q
theorem m_none {M : Model} {k : Nat} {pos : Pos} {Q : Value → Shared → Prop} (q : Q .none ⟨h, g, d, t, os⟩) : wpAny M A (eval (.Constant .none k pos) env) Q E ⟨h, g, d, t, os⟩ := wpAny_Constant_none q
theorem m_bool {M : Model} {b : Bool} {k : Nat} {pos : Pos} {Q : Value → Shared → Prop} (q : Q (.bool b) ⟨h, g, d, t, os⟩) : wpAny M A (eval (.Constant (.bool b) k pos) env) Q E ⟨h, g, d, t, os⟩ := wpAny_Constant_bool q
section
variable {a b : Int} {u v : Tok} {Q : Value → Shared → Prop}
theorem m_add (q : Q (.int (a + b) t) ⟨h, g, d, t + 1, os⟩) : wpAny (model prog w) A (binaryOp .Add (.int a u) (.int b v)) Q E ⟨h, g, d, t, os⟩ := add_int q
theorem m_sub (q : Q (.int (a - b) t) ⟨h, g, d, t + 1, os⟩) : wpAny (model prog w) A (binaryOp .Sub (.int a u) (.int b v)) Q E ⟨h, g, d, t, os⟩ := sub_int q
theorem m_mod (hb : b ≠ 0) (q : Q (.int (a.fmod b) t) ⟨h, g, d, t + 1, os⟩) : wpAny (model prog w) A (binaryOp .Mod (.int a u) (.int b v)) Q E ⟨h, g, d, t, os⟩ := mod_int' hb q
theorem m_fdiv (hb : b ≠ 0) (hs : a.natAbs < 2 ^ 62) (hb' : b.natAbs < 2 ^ 20) (q : Q (.int (a.fdiv b) t) ⟨h, g, d, t + 1, os⟩) : wpAny (model prog w) A (binaryOp .FloorDiv (.int a u) (.int b v)) Q E ⟨h, g, d, t, os⟩ :=
  floordiv_int hb q (.inl (PyProof.noPylong_small (by omega)))
theorem m_iadd (q : Q (.int (a + b) t) ⟨h, g, d, t + 1, os⟩) : wpAny (model prog w) A (inplaceOp .Add (.int a u) (.int b v)) Q E ⟨h, g, d, t, os⟩ := wpAny_iadd_int q
theorem m_lt (q : Q (.bool (decide (a < b))) ⟨h, g, d, t, os⟩) : wpAny (model prog w) A (compareOp .Lt (.int a u) (.int b v)) Q E ⟨h, g, d, t, os⟩ := lt_int q
theorem m_gt (q : Q (.bool (decide (a > b))) ⟨h, g, d, t, os⟩) : wpAny (model prog w) A (compareOp .Gt (.int a u) (.int b v)) Q E ⟨h, g, d, t, os⟩ := gt_int q
theorem m_le (q : Q (.bool (decide (a ≤ b))) ⟨h, g, d, t, os⟩) : wpAny (model prog w) A (compareOp .LtE (.int a u) (.int b v)) Q E ⟨h, g, d, t, os⟩ := le_int q
theorem m_ge (q : Q (.bool (decide (a ≥ b))) ⟨h, g, d, t, os⟩) : wpAny (model prog w) A (compareOp .GtE (.int a u) (.int b v)) Q E ⟨h, g, d, t, os⟩ := ge_int q
theorem m_eqi (q : Q (.bool (a == b)) ⟨h, g, d, t, os⟩) : wpAny (model prog w) A (compareOp .Eq (.int a u) (.int b v)) Q E ⟨h, g, d, t, os⟩ := eq_int q
theorem m_nei (q : Q (.bool (a != b)) ⟨h, g, d, t, os⟩) : wpAny (model prog w) A (compareOp .NotEq (.int a u) (.int b v)) Q E ⟨h, g, d, t, os⟩ := ne_int q
end
section
variable {x y : Str} {u v : Tok} {Q : Value → Shared → Prop}
theorem m_eqs (q : Q (.bool (x == y)) ⟨h, g, d, t, os⟩) : wpAny (model prog w) A (compareOp .Eq (.str x u) (.str y v)) Q E ⟨h, g, d, t, os⟩ := eq_str q
theorem m_nes (q : Q (.bool (x != y)) ⟨h, g, d, t, os⟩) : wpAny (model prog w) A (compareOp .NotEq (.str x u) (.str y v)) Q E ⟨h, g, d, t, os⟩ := ne_str q
end
theorem m_tb {M : Model} {b : Bool} {Q : Bool → Shared → Prop} (q : Q b ⟨h, g, d, t, os⟩) : wpAny M A (truthy (.bool b)) Q E ⟨h, g, d, t, os⟩ := wpAny_truthy_bool q

/-! ## displays -/
theorem m_tup {M : Model} {elts : List Expr} {k : Nat} {pos : Pos} {Q : Value → Shared → Prop} (q : wpAny M A (spliced (backTo pos (starEach elts env))) (fun vs s₁ => wpAny M A (newTuple vs) Q E s₁) E ⟨h, g, d, t, os⟩) : wpAny M A (eval (.Tuple elts k pos) env) Q E ⟨h, g, d, t, os⟩ := Tuple_ q
theorem m_lst {M : Model} {elts : List Expr} {pos : Pos} {Q : Value → Shared → Prop} (q : wpAny M A (spliced (backTo pos (starEach elts env))) (fun vs s₁ => wpAny M A (newList vs) Q E s₁) E ⟨h, g, d, t, os⟩) : wpAny M A (eval (.List elts pos) env) Q E ⟨h, g, d, t, os⟩ := List_ q
theorem m_newT {M : Model} {vs : List Value} {ds : List Da} {Q : Value → Shared → Prop} (hM : Mst H0 B G₀ L m W D h) (hf : ∀ G : Gr, (∀ f ∈ D, DaAll G f.1 f.2) → DaAll G vs ds) (hsz : vs.length ≤ sizeLine)
    (q : ∀ a h' t', Mst H0 B G₀ L m W (([.ref a], [.tup ds]) :: D) h' → Q (.ref a) ⟨h', g, d, t', os⟩) : wpAny M A (newTuple vs) Q E ⟨h, g, d, t, os⟩ := by
  refine wpAny_newTuple (q _ _ _ ?_) hsz
  refine (hM.push { cls := .type "tuple", data := .seq vs.toArray } rfl).facts fun G gf f hf' => ?_
  rcases List.mem_cons.mp hf' with rfl | hf'
  · have h1 := (gf _ (.head _)).head
    cases h1 with
    | obj e => exact .one (.tup e ⟨rfl, _, rfl⟩ (by rw [List.toList_toArray]; exact hf G fun f hf => gf f (.tail _ hf)))
  · exact gf f (.tail _ hf')
theorem m_newL {M : Model} {vs : List Value} {ds : List Da} {Q : Value → Shared → Prop} (hM : Mst H0 B G₀ L m W D h) (hf : ∀ G : Gr, (∀ f ∈ D, DaAll G f.1 f.2) → DaAll G vs ds) (hsz : vs.length ≤ sizeLine)
    (q : ∀ a h' t', Mst H0 B G₀ L m W (([.ref a], [.lst ds]) :: D) h' → Q (.ref a) ⟨h', g, d, t', os⟩) : wpAny M A (newList vs) Q E ⟨h, g, d, t, os⟩ := by
  refine wpAny_newList (q _ _ _ ?_) hsz
  refine (hM.push { cls := .type "list", data := .seq vs.toArray } rfl).facts fun G gf f hf' => ?_
  rcases List.mem_cons.mp hf' with rfl | hf'
  · have h1 := (gf _ (.head _)).head
    cases h1 with
    | obj e => exact .one (.lst e ⟨rfl, _, rfl⟩ (by rw [List.toList_toArray]; exact hf G fun f hf => gf f (.tail _ hf)))
  · exact gf f (.tail _ hf')
theorem m_newW {M : Model} {vs : List Value} {Q : Value → Shared → Prop} (hM : Mst H0 B G₀ L m W D h) (hsz : vs.length ≤ sizeLine)
    (q : ∀ a h' t', Mst H0 B G₀ L m ((a, .lst vs.toArray) :: W) D h' → Q (.ref a) ⟨h', g, d, t', os⟩) : wpAny M A (newList vs) Q E ⟨h, g, d, t, os⟩ :=
  wpAny_newList (q _ _ _ (hM.make { cls := .type "list", data := .seq vs.toArray } (w := .lst vs.toArray) (fun _ e => ⟨_, e⟩) rfl)) hsz

/-! ## calls: the arguments -/
theorem m_call {M : Model} {func : Expr} {args : List Expr} {pos : Pos} {Q : Value → Shared → Prop}
    (q : wpAny M A (eval func env) (fun f s₁ => wpAny M A (callWith pos f [] (backTo pos (starEach args env)) []) Q E s₁) E ⟨h, g, d, t, os⟩)
    (he : eval (.Call func args [] pos) env = (do callWith pos (← eval func env) [] (backTo pos (starEach args env)) (backToKw pos (keywordEach [] env))) := by rfl) : wpAny M A (eval (.Call func args [] pos) env) Q E ⟨h, g, d, t, os⟩ := Call_ q he
theorem m_args {M : Model} {e : Expr} {rest : List Expr} {pos : Pos} {Q : List Value → Shared → Prop}
    (q : wpAny M A (eval e env) (fun v s₁ => wpAny M A (spliced (backTo pos (starEach rest env))) (fun vs s₂ => Q (v :: vs) s₂) E s₁) E ⟨h, g, d, t, os⟩)
    (he : starEach (e :: rest) env = (false, eval e env) :: starEach rest env := by rfl) : wpAny M A (spliced (backTo pos (starEach (e :: rest) env))) Q E ⟨h, g, d, t, os⟩ := args_cons q he
theorem m_args0 {M : Model} {pos : Pos} {Q : List Value → Shared → Prop} (q : Q [] ⟨h, g, d, t, os⟩) : wpAny M A (spliced (backTo pos (starEach [] env))) Q E ⟨h, g, d, t, os⟩ := args_nil q
theorem m_cb0 {M : Model} {id : String} {first : List Value} {pos : Pos} {Q : Value → Shared → Prop} (q : wpAny M A (call (.builtin id) first) Q E ⟨h, g, d, t, os⟩) : wpAny M A (callWith pos (.builtin id) first (backTo pos (starEach [] env)) []) Q E ⟨h, g, d, t, os⟩ := callWith_method0 q
theorem m_cb {M : Model} {id : String} {e : Expr} {rest : List Expr} {pos : Pos} {Q : Value → Shared → Prop} (q : wpAny M A (spliced (backTo pos (starEach (e :: rest) env))) (fun vs s₁ => wpAny M A (call (.builtin id) vs) Q E s₁) E ⟨h, g, d, t, os⟩)
    (he : starEach (e :: rest) env = (false, eval e env) :: starEach rest env := by rfl) (hplain : (backTo pos (starEach rest env)).any (·.1) = false := by rfl) : wpAny M A (callWith pos (.builtin id) [] (backTo pos (starEach (e :: rest) env)) []) Q E ⟨h, g, d, t, os⟩ := callWith_method1 (first := []) q he hplain
theorem m_cbm {M : Model} {id : String} {self : Value} {e : Expr} {rest : List Expr} {pos : Pos} {Q : Value → Shared → Prop} (q : wpAny M A (spliced (backTo pos (starEach (e :: rest) env))) (fun vs s₁ => wpAny M A (call (.builtin id) (self :: vs)) Q E s₁) E ⟨h, g, d, t, os⟩)
    (he : starEach (e :: rest) env = (false, eval e env) :: starEach rest env := by rfl) (hplain : (backTo pos (starEach rest env)).any (·.1) = false := by rfl) : wpAny M A (callWith pos (.builtin id) [self] (backTo pos (starEach (e :: rest) env)) []) Q E ⟨h, g, d, t, os⟩ := callWith_method1 (first := [self]) q he hplain
theorem m_ct {M : Model} {T : String} {e : Expr} {rest : List Expr} {pos : Pos} {Q : Value → Shared → Prop} (q : wpAny M A (spliced (backTo pos (starEach (e :: rest) env))) (fun vs s₁ => wpAny M A (call (.type T) vs) Q E s₁) E ⟨h, g, d, t, os⟩)
    (he : starEach (e :: rest) env = (false, eval e env) :: starEach rest env := by rfl) (hplain : (backTo pos (starEach rest env)).any (·.1) = false := by rfl) : wpAny M A (callWith pos (.type T) [] (backTo pos (starEach (e :: rest) env)) []) Q E ⟨h, g, d, t, os⟩ := PySem.Pv.callWith_type1 q he hplain
theorem m_cd0 {M : Model} {f : Addr} {first : List Value} {pos : Pos} {Q : Value → Shared → Prop} (gd : Gd K H0) (hM : Mst H0 B G₀ L m W D h) (hk : keepIn K (.ref f) = true) (q : wpAny M A (call (.ref f) (first ++ [])) Q E ⟨h, g, d, t, os⟩) :
    wpAny M A (callWith pos (.ref f) first (backTo pos (starEach [] env)) []) Q E ⟨h, g, d, t, os⟩ := callWith_K0 (gd.X.keeps hM.low) hk q
theorem m_cd {M : Model} {f : Addr} {e : Expr} {rest : List Expr} {pos : Pos} {Q : Value → Shared → Prop} (gd : Gd K H0) (hk : keepIn K (.ref f) = true)
    (q : wpAny M A (spliced (backTo pos (starEach (e :: rest) env))) (fun vs s₁ => K.In s₁.heap ∧ wpAny M A (call (.ref f) vs) Q E s₁) E ⟨h, g, d, t, os⟩)
    (he : starEach (e :: rest) env = (false, eval e env) :: starEach rest env := by rfl) (hplain : (backTo pos (starEach rest env)).any (·.1) = false := by rfl) :
    wpAny M A (callWith pos (.ref f) [] (backTo pos (starEach (e :: rest) env)) []) Q E ⟨h, g, d, t, os⟩ := callWith_K (first := []) gd.X hk q he hplain
theorem m_cdm {M : Model} {f : Addr} {self : Value} {e : Expr} {rest : List Expr} {pos : Pos} {Q : Value → Shared → Prop} (gd : Gd K H0) (hk : keepIn K (.ref f) = true)
    (q : wpAny M A (spliced (backTo pos (starEach (e :: rest) env))) (fun vs s₁ => K.In s₁.heap ∧ wpAny M A (call (.ref f) (self :: vs)) Q E s₁) E ⟨h, g, d, t, os⟩)
    (he : starEach (e :: rest) env = (false, eval e env) :: starEach rest env := by rfl) (hplain : (backTo pos (starEach rest env)).any (·.1) = false := by rfl) :
    wpAny M A (callWith pos (.ref f) [self] (backTo pos (starEach (e :: rest) env)) []) Q E ⟨h, g, d, t, os⟩ := callWith_K (first := [self]) gd.X hk q he hplain
theorem m_in {P : Prop} (gd : Gd K H0) (hM : Mst H0 B G₀ L m W D h) (p : P) : K.In (Shared.heap ⟨h, g, d, t, os⟩) ∧ P := ⟨gd.X.keeps hM.low, p⟩

/-! ## methods of built-in values -/
theorem m_meth {M : Model} {o : Expr} {name : Str} {apos pos : Pos} {args : List Expr} {pl : Sem Bool} {Q : Value → Shared → Prop}
    (q : wpAny M A (eval o env) (fun ov s₁ => wpAny M A (getMethod ov name pl) (fun fx s₂ => wpAny M A (callWith pos fx.1 fx.2 (backTo pos (starEach args env)) []) Q E s₂) E s₁) E ⟨h, g, d, t, os⟩)
    (he : eval (.Call (.Attribute o name apos) args [] pos) env = (do
      let ov ← eval o env
      standAt apos.atName
      let (f, first) ← holding [ov] (getMethod ov name pl)
      callWith pos f first (backTo pos (starEach args env)) []) := by rfl) : wpAny M A (eval (.Call (.Attribute o name apos) args [] pos) env) Q E ⟨h, g, d, t, os⟩ := MethodCall_ q he
theorem m_gm_append {M : Model} {a : Addr} {vs : Array Value} {pl : Sem Bool} {Q : Value × List Value → Shared → Prop} (hM : Mst H0 B G₀ L m W D h) (hm : (a, Wo.lst vs) ∈ W) (q : Q (.builtin "list.append", [.ref a]) ⟨h, g, d, t, os⟩) :
    wpAny M A (getMethod (.ref a) "append" pl) Q E ⟨h, g, d, t, os⟩ := by
  obtain ⟨⟨n, hn⟩, _⟩ := hM.own _ hm
  exact getMethod_list_append hn rfl rfl q
theorem m_append {a : Addr} {vs : Array Value} {x : Value} {Q : Value → Shared → Prop} (hM : Mst H0 B G₀ L m W D h) (u : WUp a (.lst vs) (.lst (vs.push x)) W W') (hsz : vs.size ≤ sizeLine) (q : ∀ h' t', Mst H0 B G₀ L m W' D h' → Q .none ⟨h', g, d, t', os⟩) :
    wpAny (model prog w) A (call (.builtin "list.append") [.ref a, x]) Q E ⟨h, g, d, t, os⟩ := by
  obtain ⟨⟨n, hn⟩, _⟩ := hM.own _ u.mem
  refine wpAny_list_append_plain (s := ⟨h, g, d, t, os⟩) (items := vs) ⟨n, hn⟩ (fun h' hl hs => q h' t (hM.up u hl fun b o hb e => (hs.2 b hb).trans e)) hsz
theorem m_range {a b : Int} {u v : Tok} {Q : Value → Shared → Prop} (hM : Mst H0 B G₀ L m W D h)
    (q : ∀ r h' t' t₁ t₂ t₃, Mst H0 B G₀ L m W D h' → IsRange h' r a b 1 t₁ t₂ t₃ → Q (.ref r) ⟨h', g, d, t', os⟩) : wpAny (model prog w) A (call (.type "range") [.int a u, .int b v]) Q E ⟨h, g, d, t, os⟩ :=
  call_range_2 (q _ _ _ _ _ _ ((hM.push _ rfl).sub fun f hf => .tail _ hf) (IsRange.new ..))

/-! ## statements -/
theorem m_asg {M : Model} {x : Str} {px pos : Pos} {value : Expr} {Q : Flow → Shared → Prop} (q : wpAny M A (eval value env) (fun v s₁ => wpAny M A (storeName env x v) (fun _ => Q .next) E s₁) E ⟨h, g, d, t, os⟩)
    (hs : swapsWith value (some (.Name x px)) pos.line env = pure false := by rfl) : wpAny M A (exec (.Assign [.Name x px] value pos) env) Q E ⟨h, g, d, t, os⟩ := wpAny_Assign_Name q hs
theorem m_aug {M : Model} {x : Str} {px pos : Pos} {op : Operator} {value : Expr} {Q : Flow → Shared → Prop}
    (q : wpAny M A (loadName env x) (fun old s₁ => wpAny M A (eval value env) (fun v s₂ => wpAny M A (inplaceOp op old v) (fun r s₃ => wpAny M A (storeName env x r) (fun _ => Q .next) E s₃) E s₂) E s₁) E ⟨h, g, d, t, os⟩) :
    wpAny M A (exec (.AugAssign (.Name x px) op value pos) env) Q E ⟨h, g, d, t, os⟩ := wpAny_AugAssign_Name q
theorem m_expr {M : Model} {e : Expr} {pos : Pos} {Q : Flow → Shared → Prop} (hE : EnvIs env L ns cl) (q : wpAny M A (eval e env) (fun v s' => match v with | .ref _ => False | _ => Q .next s') E ⟨h, g, d, t, os⟩) (hs : swapsWith e none pos.line env = pure false := by rfl) :
    wpAny M A (exec (.Expr e pos) env) Q E ⟨h, g, d, t, os⟩ := wpAny_Expr q (by unfold interactive; rw [hE.kind]; rfl) hs
end
end Mine
end
section
open PySem PySem.W PySem.Calls PySem.Spec PyProof.Rows
set_option Elab.async false
set_option maxRecDepth 100000
namespace Mine

/-- what follows a statement -/
def Then (M : Model) (A : Around) (rest : List Stmt) (env : Env) (Q : Flow → Shared → Prop) (E : Value → Shared → Prop) (f : Flow) (s : Shared) : Prop :=
  match f with | .next => wpAny M A (execs rest env) Q E s | f => Q f s
/-- a test's two ways -/
def Both (b : Bool) (P P' : Prop) : Prop := if b = true then P else P'
theorem Both.of {b : Bool} {P P' : Prop} (h : b = true → P) (h' : b = false → P') : Both b P P' := by
  cases b with
  | true => exact h rfl
  | false => exact h' rfl
theorem Both.tt {P P' : Prop} (h : P) : Both true P P' := h
theorem Both.ff {P P' : Prop} (h : P') : Both false P P' := .of (fun e => by cases e) fun _ => h
theorem Both.cond {p : Prop} [Decidable p] {P P' : Prop} (h : p → P) (h' : ¬ p → P') : Both (decide p) P P' :=
  .of (fun e => h (of_decide_eq_true e)) fun e => h' (of_decide_eq_false e)

section
variable {prog : Program} {w : World} {A : Around} {E : Value → Shared → Prop} {K : Frag} {H0 : Heap} {B G₀ : Gr} {L : Addr} {m : Loc} {l : List (Str × Value)} {W W' : Own} {D : Facts} {h : Heap} {g : Array GenState} {d : Drawn} {t : Nat} {os : OsState} {env : Env} {ns : List (Str × NameKind)} {cl : List (Str × Addr)}
theorem m_cons {M : Model} {st : Stmt} {rest : List Stmt} {Q : Flow → Shared → Prop} {s : Shared} (q : wpAny M A (exec st env) (Then M A rest env Q E) E s) : wpAny M A (execs (st :: rest) env) Q E s :=
  wpAny_execs_cons (wpAny_mono q (fun f s' h' => by cases f <;> exact h') fun _ _ x => x)
theorem m_if {M : Model} {test : Expr} {body orelse : List Stmt} {pos : Pos} {Q : Flow → Shared → Prop} {s : Shared}
    (q : wpAny M A (isTrue test env (eval test env)) (fun b s₂ => Both b (wpAny M A (execs body env) Q E s₂) (wpAny M A (execs orelse env) Q E s₂)) E s) : wpAny M A (exec (.If test body orelse pos) env) Q E s := wpAny_If q
theorem m_and {M : Model} {x : Expr} {rest : List Expr} {pos : Pos} {whole : Sem Value} {Q : Bool → Shared → Prop} {s : Shared}
    (q : wpAny M A (isTrue x env (eval x env)) (fun c s' => Both c (wpAny M A (isTrue (.BoolOp .And rest pos) env whole) Q E s') (Q false s')) E s) : wpAny M A (isTrue (.BoolOp .And (x :: rest) pos) env whole) Q E s := isTrue_and q
theorem m_and1 {M : Model} {x : Expr} {pos : Pos} {whole : Sem Value} {Q : Bool → Shared → Prop} {s : Shared} (q : wpAny M A (isTrue x env (eval x env)) Q E s) : wpAny M A (isTrue (.BoolOp .And [x] pos) env whole) Q E s :=
  isTrue_and (wpAny_mono q (fun c s' h' => by cases c with | true => exact isTrue_and_nil h' | false => exact h') fun _ _ x => x)
theorem m_or {M : Model} {x : Expr} {rest : List Expr} {pos : Pos} {whole : Sem Value} {Q : Bool → Shared → Prop} {s : Shared}
    (q : wpAny M A (isTrue x env (eval x env)) (fun c s' => Both c (Q true s') (wpAny M A (isTrue (.BoolOp .Or rest pos) env whole) Q E s')) E s) : wpAny M A (isTrue (.BoolOp .Or (x :: rest) pos) env whole) Q E s := isTrue_or q
theorem m_or1 {M : Model} {x : Expr} {pos : Pos} {whole : Sem Value} {Q : Bool → Shared → Prop} {s : Shared} (q : wpAny M A (isTrue x env (eval x env)) Q E s) : wpAny M A (isTrue (.BoolOp .Or [x] pos) env whole) Q E s :=
  isTrue_or (wpAny_mono q (fun c s' h' => by cases c with | false => exact isTrue_or_nil h' | true => exact h') fun _ _ x => x)
theorem m_not {M : Model} {x : Expr} {pos : Pos} {whole : Sem Value} {Q : Bool → Shared → Prop} {s : Shared} (q : wpAny M A (isTrue x env (eval x env)) (fun b s₁ => Q (!b) s₁) E s) : wpAny M A (isTrue (.UnaryOp .Not x pos) env whole) Q E s := isTrue_not q
theorem m_vand {M : Model} {e₁ e₂ : Expr} {rest : List Expr} {pos : Pos} {Q : Value → Shared → Prop} {s : Shared}
    (q : wpAny M A (eval e₁ env) (fun v s₁ => wpAny M A (truthy v) (fun c s₂ => Both c (wpAny M A (eval (.BoolOp .And (e₂ :: rest) pos) env) Q E s₂) (Q v s₂)) E s₁) E s) : wpAny M A (eval (.BoolOp .And (e₁ :: e₂ :: rest) pos) env) Q E s := BoolOp_and q
theorem m_vone {M : Model} {op : BoolOp} {e : Expr} {pos : Pos} {Q : Value → Shared → Prop} {s : Shared} (q : wpAny M A (eval e env) Q E s) : wpAny M A (eval (.BoolOp op [e] pos) env) Q E s := BoolOp_one q
theorem m_ifx {M : Model} {test body orelse : Expr} {pos : Pos} {Q : Value → Shared → Prop} {s : Shared}
    (q : wpAny M A (isTrue test env (eval test env)) (fun c s₂ => Both c (wpAny M A (eval body env) Q E s₂) (wpAny M A (eval orelse env) Q E s₂)) E s) : wpAny M A (eval (.IfExp test body orelse pos) env) Q E s := IfExp_ q
/-- how a loop's turn may end -/
structure TurnTo (H0 : Heap) (B' G' : Gr) (L : Addr) (g : Array GenState) (d : Drawn) (os : OsState) (Q : Flow → Shared → Prop) (J : List (Str × Value) → Own → Facts → Prop) (T : Flow → Shared → Prop) : Prop where
  next : ∀ l' W' D' h' t', Mst H0 B' G' L (lk l') W' D' h' → J l' W' D' → T .next ⟨h', g, d, t', os⟩
  brk : ∀ s', Q .next s' → T .brk s'
  ret : ∀ v s', Q (.ret v) s' → T (.ret v) s'
theorem TurnTo.of {B' G' : Gr} {Q : Flow → Shared → Prop} {J : List (Str × Value) → Own → Facts → Prop} : TurnTo H0 B' G' L g d os Q J (Turn H0 B' G' L g d os Q J) :=
  ⟨fun _ _ _ _ _ hM j => m_turn hM j, fun _ z => z, fun _ _ z => z⟩
/-- a while, by a number that falls -/
theorem m_loop {test : Expr} {body : List Stmt} {pos : Pos} {Q : Flow → Shared → Prop} {l₀ : List (Str × Value)} {D₀ : Facts} (hM : Mst H0 B G₀ L (lk l₀) W D₀ h)
    (J : Nat → List (Str × Value) → Own → Facts → Prop) (k : Nat) (j0 : J k l₀ W D₀)
    (turn : ∀ k l₁ W' D' h' t' E' T, J k l₁ W' D' → Mst H0 B G₀ L (lk l₁) W' D' h' → TurnTo H0 B G₀ L g d os Q (fun l W D => ∃ k', k' < k ∧ J k' l W D) T →
      wpAny (model prog w) A (isTrue test env (eval test env)) (fun b s₂ => Both b (wpAny (model prog w) A (execs body env) T E' s₂) (Q .next s₂)) E' ⟨h', g, d, t', os⟩) :
    wpAny (model prog w) A (exec (.While test body [] pos) env) Q E ⟨h, g, d, t, os⟩ := m_while hM J k j0 fun k l₁ W' D' h' t' E' hj hM => turn k l₁ W' D' h' t' E' _ hj hM .of
theorem n_str {x : Str} {px : Pos} {y : Str} {ty : Tok} {body : List Stmt} {Q : Flow → Shared → Prop} {l₀ : List (Str × Value)} {D₀ : Facts} (hA : A.handled = none) (hE : EnvIs env L ns cl) (hl : ns.lookup x = some .local)
    (hM : Mst H0 B G₀ L (lk l₀) W D₀ h)
    (J : Nat → List (Str × Value) → Own → Facts → Prop) (j0 : J 0 l₀ W D₀)
    (turn : ∀ i (c : Nat) tc l₁ W' D' B' G' h' t' E' T, y.cps[i]? = some c → J i l₁ W' D' → Mst H0 B' G' L (lk ((x, .str ⟨#[c]⟩ tc) :: l₁)) W' D' h' →
      (∀ m₂ W₃ D₁ h₂, Mst H0 B' G' L m₂ W₃ D₁ h₂ → Mst H0 B G₀ L m₂ W₃ D₁ h₂) → TurnTo H0 B' G' L g d os Q (J (i + 1)) T →
      wpAny (model prog w) A (execs body env) T E' ⟨h', g, d, t', os⟩)
    (done : ∀ l₁ W' D' h' t', J y.cps.size l₁ W' D' → Mst H0 B G₀ L (lk l₁) W' D' h' → Q .next ⟨h', g, d, t', os⟩) :
    wpAny (model prog w) A (pyIter (.str y ty)) (fun it s₂ => codeAny (model prog w) A (.forLoop (.Name x px) it body [] env) (fun r s' => match r with | .ok f => Q f s' | .error e => cameBackBy (model prog w) A env E e s') s₂) E ⟨h, g, d, t, os⟩ :=
  m_iter_str hA hE hl hM J j0 (fun i c tc l₁ W' D' B' G' h' t' E' hc hj hM back => turn i c tc l₁ W' D' B' G' h' t' E' _ hc hj hM back .of) done
theorem n_range {x : Str} {px : Pos} {r : Addr} {a b : Int} {t₁ t₂ t₃ : Tok} {body : List Stmt} {Q : Flow → Shared → Prop} {l₀ : List (Str × Value)} {D₀ : Facts} (hA : A.handled = none) (hE : EnvIs env L ns cl) (hl : ns.lookup x = some .local)
    (hM : Mst H0 B G₀ L (lk l₀) W D₀ h) (hr : IsRange h r a b 1 t₁ t₂ t₃) (hs : Builtin.Range.small a b 1 = true) (n : Nat) (hn : n = (b - a).toNat)
    (J : Nat → List (Str × Value) → Own → Facts → Prop) (j0 : J 0 l₀ W D₀)
    (turn : ∀ (i : Nat) tc l₁ W' D' B' G' h' t' E' T, i < n → J i l₁ W' D' → Mst H0 B' G' L (lk ((x, .int (a + i) tc) :: l₁)) W' D' h' →
      (∀ m₂ W₃ D₁ h₂, Mst H0 B' G' L m₂ W₃ D₁ h₂ → Mst H0 B G₀ L m₂ W₃ D₁ h₂) → TurnTo H0 B' G' L g d os Q (J (i + 1)) T →
      wpAny (model prog w) A (execs body env) T E' ⟨h', g, d, t', os⟩)
    (done : ∀ l₁ W' D' h' t', J n l₁ W' D' → Mst H0 B G₀ L (lk l₁) W' D' h' → Q .next ⟨h', g, d, t', os⟩) :
    wpAny (model prog w) A (pyIter (.ref r)) (fun it s₂ => codeAny (model prog w) A (.forLoop (.Name x px) it body [] env) (fun r s' => match r with | .ok f => Q f s' | .error e => cameBackBy (model prog w) A env E e s') s₂) E ⟨h, g, d, t, os⟩ :=
  m_iter_range hA hE hl hM hr hs n hn J j0 (fun i tc l₁ W' D' B' G' h' t' E' hi hj hM back => turn i tc l₁ W' D' B' G' h' t' E' _ hi hj hM back .of) done
/-- the end of a loop's turn, with the names and the facts that are to stand -/
theorem m_tu {B' G' : Gr} {Q : Flow → Shared → Prop} {J : List (Str × Value) → Own → Facts → Prop} {T : Flow → Shared → Prop} {l l' : List (Str × Value)} {W' : Own} {D' : Facts} (hT : TurnTo H0 B' G' L g d os Q J T) (hM : Mst H0 B' G' L (lk l) W' D' h) (j : J l' W' D') (k : Kn (lk l) l') :
    T .next ⟨h, g, d, t, os⟩ := hT.next _ _ _ _ _ (hM.know k) j
theorem m_tuf {B' G' : Gr} {Q : Flow → Shared → Prop} {J : List (Str × Value) → Own → Facts → Prop} {T : Flow → Shared → Prop} {l l' : List (Str × Value)} {W' : Own} {D' D'' : Facts} (hT : TurnTo H0 B' G' L g d os Q J T) (hM : Mst H0 B' G' L (lk l) W' D' h) (j : J l' W' D'') (k : Kn (lk l) l')
    (hD : ∀ G : Gr, (∀ f ∈ D', DaAll G f.1 f.2) → ∀ f ∈ D'', DaAll G f.1 f.2) : T .next ⟨h, g, d, t, os⟩ := hT.next _ _ _ _ _ ((hM.know k).facts hD) j
/-- the end of a def -/
theorem m_fin {m : Loc} {W₁ W' : Own} {B' G' : Gr} {L' : Addr} {m' : Loc} {D' : Facts} {Q : Value → Shared → Prop} {R : Flow → Shared → Prop} {v : Value} (hR : ∀ v s', Back H0 B G₀ L m W₁ B' G' L' g d os Q v s' → R (.ret v) s') (hM : Mst H0 B' G' L' m' W' D' h)
    (q : Mst H0 B G₀ L m (W₁ ++ W') D' h → Q v ⟨h, g, d, t, os⟩) : R (.ret v) ⟨h, g, d, t, os⟩ := hR _ _ (m_end hM q)
end
end Mine
end
section
open PySem PySem.W PySem.Calls PySem.Spec PyProof.Rows
set_option Elab.async false
set_option maxRecDepth 100000
namespace Mine

theorem FldL.noRef {es : List DictEntry} {l : List (Str × Value)} (h : FldL es l) : es.any (·.refKey) = false := by
  induction h with
  | nil => rfl
  | cons _ ih => rw [List.any_cons, ih]; rfl
theorem getL_flds {name : Str} {es : List DictEntry} {l : List (Str × Value)} (h : FldL es l) : getL name es = some (l.lookup name) := by
  have h1 : es.any (·.refKey) = false := by
    induction h with
    | nil => rfl
    | cons _ ih => rw [List.any_cons, ih]; rfl
  have h2 : (es.find? (·.key.isStr name)).map (·.val) = l.lookup name := by
    clear h1
    induction h with
    | nil => rfl
    | @cons hs x tk v es l _ ih =>
      rw [List.find?_cons, List.lookup_cons]
      show Option.map _ (match x == name with | true => _ | false => _) = _
      rw [show (name == x) = (x == name) from by rw [Bool.eq_iff_iff, beq_iff_eq, beq_iff_eq]; exact eq_comm]
      cases x == name with
      | true => rfl
      | false => exact ih
  unfold getL
  cases q : es.find? (·.key.isStr name) with
  | some e => rw [q] at h2; rw [← h2]; rfl
  | none => rw [q] at h2; rw [← h2, h1]; rfl
theorem putL_flds {name : Str} {hsh : Int} {tk : Tok} {v : Value} {es : List DictEntry} {l : List (Str × Value)} (h : FldL es l) (hn : l.lookup name = none) : FldL (putL name hsh (.str name tk) v es) (l ++ [(name, v)]) := by
  induction h with
  | nil => exact .cons .nil
  | @cons hs x tk' v' es l r ih =>
    rw [List.lookup_cons] at hn
    unfold putL
    rw [show (Value.str x tk').isStr name = (name == x) from by show (x == name) = _; rw [Bool.eq_iff_iff, beq_iff_eq, beq_iff_eq]; exact eq_comm]
    cases q : name == x with
    | true => rw [q] at hn; cases hn
    | false => rw [q] at hn; exact .cons (ih hn)
theorem FldL.length {es : List DictEntry} {l : List (Str × Value)} (h : FldL es l) : es.length = l.length := by
  induction h with
  | nil => rfl
  | cons _ ih => rw [List.length_cons, List.length_cons, ih]

/-- what a class lets one do with an instance's own attributes -/
structure ClsOk (K : Frag) (C : Addr) : Prop where
  ga : findIn K (.ref C) "__getattribute__" = some (some (.builtin "object.__getattribute__"))
  sa : findIn K (.ref C) "__setattr__" = some (some (.builtin "object.__setattr__"))
  gm : findIn K (.ref C) "__getattr__" = some none
  po : plainOver K C = true
  hd : hasDictIn K C = true

section
variable {prog : Program} {w : World} {A : Around} {E : Value → Shared → Prop} {K : Frag} {H0 : Heap} {B G₀ : Gr} {L : Addr} {m : Loc} {l : List (Str × Value)} {W W' : Own} {D : Facts} {h : Heap} {g : Array GenState} {d : Drawn} {t : Nat} {os : OsState} {env : Env} {ns : List (Str × NameKind)} {cl : List (Str × Addr)} {x C dx : Addr} {fl : List (Str × Value)} {name : Str} {v : Value}

theorem Mst.objAt {a : Addr} {o : Obj} (hM : Mst H0 B G₀ L m W D h) (hf : ([.ref a], [.obj o]) ∈ D) : h.get? a = some o := by
  obtain ⟨G, g1, g5⟩ := hM.told
  have := (g5 _ hf).head
  cases this with
  | obj e => exact g1 _ _ e
/-- an instance, and what its own attributes are -/
inductive Inst (W : Own) (D : Facts) (x C dx : Addr) (fl : List (Str × Value)) : Prop
  | own : ([.ref x], [.obj (instObj C dx)]) ∈ D → (dx, .flds fl) ∈ W → Inst W D x C dx fl
  | kept {o : Obj} : ([.ref x], [.obj (instObj C dx)]) ∈ D → ([.ref dx], [.obj o]) ∈ D → Flds o fl → Inst W D x C dx fl
theorem Mst.inst (hM : Mst H0 B G₀ L m W D h) (i : Inst W D x C dx fl) : ∃ o, PySem.W.InstAt h x (instObj C dx) C (some o) ∧ h.get? dx = some o ∧ Flds o fl := by
  cases i with
  | own h1 h2 =>
    obtain ⟨⟨o, ho, hfl⟩, _⟩ := hM.own _ h2
    exact ⟨o, ⟨hM.objAt h1, rfl, rfl, ho⟩, ho, hfl⟩
  | kept h1 h2 hfl => exact ⟨_, ⟨hM.objAt h1, rfl, rfl, hM.objAt h2⟩, hM.objAt h2, hfl⟩

/-- an instance is made: its class is called -/
theorem m_make {f : Addr} {rest : List Value} {kw : List (Str × Value)} {Q : Value → Shared → Prop} {dd uu : Nat} (gd : Gd K H0) (hM : Mst H0 B G₀ L m W D h) (hA : Rm A (dd + 1) (uu + 1))
    (hmk : makesIn K C = true) (hi : findIn K (.ref C) "__init__" = some (some (.ref f))) (hf : typeIn K (.ref f) = some (.type "function"))
    (q : ∀ x dx h' A', Rm A' dd uu → Mst H0 B G₀ L m ((dx, .flds []) :: W) (([.ref x], [.obj (instObj C dx)]) :: D) h' →
      codeAny (model prog w) A' (.call (.ref f) ⟨.ref x :: rest, kw⟩) (fun r s' => match r with | .ok (.ret v) => v = .none ∧ Q (.ref x) s' | _ => False) ⟨h', g, d, t, os⟩) :
    wpAny (model prog w) A (call (.ref C) rest kw) Q E ⟨h, g, d, t, os⟩ := by
  have X := gd.X.keeps hM.low
  refine wpAny_call (make_core (makes_of X hmk) (looks_findIn X hi) (fun self => bind_fn X self hf) (.inl rfl) ?_)
  have hA' : Rm (A.under (.builtin "type.__call__" ⟨.ref C :: rest, kw⟩)) dd uu := ⟨hA.h, by have := hA.dp; show A.depth + 1 + dd < _; omega, by have := hA.un; show A.units + 1 + uu < _; omega⟩
  have hM1 := hM.make emptyDict (w := .flds []) (fun h₁ e => ⟨_, e, [], 0, rfl, .nil⟩) rfl
  have hM2 := hM1.push (instObj C h.objs.size) rfl
  rw [Heap.size_push] at hM2
  refine codeAny_mono (q _ _ _ _ hA' hM2) fun r s' z => ?_
  rcases r with e | (v | _ | _ | _) <;> first | exact z | exact z.elim
/-- an own attribute is read -/
theorem m_get {expr : Bool} {Q : Value → Shared → Prop} (gd : Gd K H0) (hC : ClsOk K C) (hM : Mst H0 B G₀ L m W D h) (i : Inst W D x C dx fl) (hn : findIn K (.ref C) name = some none) (hl : fl.lookup name = some v) (hh : handedIn v = true)
    (q : Q v ⟨h, g, d, t + 1, os⟩) : wpAny (model prog w) A (getAttr (.ref x) name expr) Q E ⟨h, g, d, t, os⟩ := by
  obtain ⟨o, I, _, es, n, rfl, hfl⟩ := hM.inst i
  exact get_value (s := ⟨h, g, d, t, os⟩) (gd.X.keeps hM.low) I hC.ga (findObj_own hC.hd hn rfl ((lookIn_dict _ _ _).trans (by rw [getL_flds hfl, hl]))) hh q

/-- an own attribute is laid for the first time -/
theorem m_set {Q : Unit → Shared → Prop} (gd : Gd K H0) (hC : ClsOk K C) (hM : Mst H0 B G₀ L m W D h) (hx : ([.ref x], [.obj (instObj C dx)]) ∈ D) (u : WUp dx (.flds fl) (.flds (fl ++ [(name, v)])) W W')
    (hn : findIn K (.ref C) name = some none) (hl : fl.lookup name = none) (hz : fl.length < 1000) (q : ∀ h' t', Mst H0 B G₀ L m W' D h' → Q () ⟨h', g, d, t', os⟩) :
    wpAny (model prog w) A (setAttr (.ref x) name v) Q E ⟨h, g, d, t, os⟩ := by
  obtain ⟨o, I, hdx, es, n, rfl, hfl⟩ := hM.inst (.own hx u.mem)
  have X := gd.X.keeps hM.low
  refine set_plain (s := ⟨h, g, d, t, os⟩) X I hC.sa ?_
  refine osa_open (s := ⟨h, g, d, t + 1, os⟩) (r := none) X I hC.po (by unfold takerIn; rw [hn]; rfl) fun b => ?_
  obtain ⟨cd, hc, hd'⟩ := any_some hC.hd
  obtain ⟨hx', hcl, hno, -⟩ := I
  refine wpAny_bind (wpAny_pure (wpAny_bind (wpAny_bind (wpAny_loadPart hx' (wpAny_bind ((looks_clsIn X hc).here ?_))))))
  rw [hd']
  refine wpAny_pure (a := some dx) (wpAny_bind (wpAny_pure (wpAny_bind ?_)))
  unfold nsSet
  refine wpAny_bind (wpAny_bind (wpAny_askSetting (wpAny_pure (wpAny_bind (wpAny_mkText (wpAny_bind (wpAny_loadPart hdx ?_)))))))
  dsimp only
  have hany := hfl.noRef
  rw [aRefKeyMayBeTheName_at, List.any_toArray, List.any_toArray, hany, Bool.and_false]
  have hput := putL_flds (hsh := PyData.keyHash w.params name) (tk := t + 1) hfl (v := v) hl
  have hup := Heap.get?_update_self (Obj.putName name (PyData.keyHash w.params name) (.str name (t + 1)) v) hdx (by rw [putName_dict]; rfl)
  rw [putName_dict] at hup
  refine wpAny_updatePart hdx ?_
  refine wpAny_bind (wpAny_lookBehind hup (by
    refine pastItsLine_dict ?_
    rw [List.size_toArray, sizeLine_eq, hput.length, List.length_append, List.length_singleton]; omega) ?_)
  refine wpAny_pure (q _ _ (hM.up u ⟨_, hup, _, _, rfl, hput⟩ fun b o hb e => ?_))
  rw [Heap.get?_update_ne _ _ _ _ hb]; exact e
end
end Mine
end
section
open PySem PySem.W PySem.Calls PySem.Spec PyProof.Rows
set_option Elab.async false
set_option maxRecDepth 100000
namespace Mine

inductive LstIn (W : Own) (D : Facts) (a : Addr) (vs : Array Value) : Prop
  | own : (a, Wo.lst vs) ∈ W → LstIn W D a vs
  | ownx : (a, Wo.lsx vs) ∈ W → LstIn W D a vs
  | kept {o : Obj} : ([.ref a], [.obj o]) ∈ D → LstO vs o → LstIn W D a vs

section
variable {prog : Program} {w : World} {A : Around} {E : Value → Shared → Prop} {K : Frag} {H0 : Heap} {B G₀ : Gr} {L : Addr} {m : Loc} {l : List (Str × Value)} {W W' : Own} {D : Facts} {h : Heap} {g : Array GenState} {d : Drawn} {t : Nat} {os : OsState} {env : Env} {ns : List (Str × NameKind)} {cl : List (Str × Addr)}

theorem Mst.lst {a : Addr} {vs : Array Value} (hM : Mst H0 B G₀ L m W D h) (i : LstIn W D a vs) : h.IsList a vs := by
  cases i with
  | own h1 => obtain ⟨⟨n, hn⟩, _⟩ := hM.own _ h1; exact ⟨_, hn, rfl, n, rfl⟩
  | ownx h1 => exact (hM.own _ h1).1
  | kept h1 h2 => exact ⟨_, hM.objAt h1, h2⟩
theorem Mst.ltup {a : Addr} {vs : Array Value} {o : Obj} (hM : Mst H0 B G₀ L m W D h) (i : ([.ref a], [.obj o]) ∈ D) (ho : TupO vs o) : h.IsTuple a vs := ⟨_, hM.objAt i, ho⟩
/-- a list, a tuple that stay: their items, and the very object -/
theorem Mst.open {a : Addr} {ds : List Da} (hM : Mst H0 B G₀ L m W D h) (hf : ([.ref a], [.lst ds]) ∈ D) :
    ∃ (vs : Array Value) (o : Obj), LstO vs o ∧ vs.size = ds.length ∧ Mst H0 B G₀ L m W ((vs.toList, ds) :: ([.ref a], [.obj o]) :: D) h := by
  obtain ⟨G, g0, g1, g2, g3, g4, g5⟩ := hM.gr
  have hd := (g5 _ hf).head
  cases hd with
  | lst ho hl hv =>
    refine ⟨_, _, hl, by simpa using hv.length, hM.base, hM.keep, hM.ns, hM.bL, hM.own, hM.nd, G, g0, g1, g2, g3, g4, fun f hf' => ?_⟩
    rcases List.mem_cons.mp hf' with rfl | hf'
    · exact hv
    rcases List.mem_cons.mp hf' with rfl | hf'
    · exact .one (.obj ho)
    · exact g5 f hf'
theorem Mst.topen {a : Addr} {ds : List Da} (hM : Mst H0 B G₀ L m W D h) (hf : ([.ref a], [.tup ds]) ∈ D) :
    ∃ (vs : Array Value) (o : Obj), TupO vs o ∧ vs.size = ds.length ∧ Mst H0 B G₀ L m W ((vs.toList, ds) :: ([.ref a], [.obj o]) :: D) h := by
  obtain ⟨G, g0, g1, g2, g3, g4, g5⟩ := hM.gr
  have hd := (g5 _ hf).head
  cases hd with
  | tup ho hl hv =>
    refine ⟨_, _, hl, by simpa using hv.length, hM.base, hM.keep, hM.ns, hM.bL, hM.own, hM.nd, G, g0, g1, g2, g3, g4, fun f hf' => ?_⟩
    rcases List.mem_cons.mp hf' with rfl | hf'
    · exact hv
    rcases List.mem_cons.mp hf' with rfl | hf'
    · exact .one (.obj ho)
    · exact g5 f hf'

/-- all that stood stands -/
theorem Mst.grown (hM : Mst H0 B G₀ L m W D h) {h' : Heap} (hk : ∀ b o, h.get? b = some o → h'.get? b = some o) : Mst H0 B G₀ L m W D h' :=
  hM.next (fun _ => none) (hM.ns.at fun o e => hk L o e) (fun b o _ _ e => hk b o e) (fun p hp => ⟨(hM.own p hp).1.at fun o e => hk _ o e, rfl, .inl ⟨p, hp, rfl⟩⟩) hM.nd (fun _ _ e => by cases e) fun _ g _ => g
theorem Mst.grownNew (hM : Mst H0 B G₀ L m W D h) {h' : Heap} (hk : ∀ b o, h.get? b = some o → h'.get? b = some o) {a : Addr} {o : Obj} (ho : h'.get? a = some o) (hn : h.get? a = none) : Mst H0 B G₀ L m W (([.ref a], [.obj o]) :: D) h' := by
  refine hM.next (fun b => if b = a then some o else none) (hM.ns.at fun o e => hk L o e) (fun b o _ _ e => hk b o e) (fun p hp => ⟨(hM.own p hp).1.at fun o e => hk _ o e, ?_, .inl ⟨p, hp, rfl⟩⟩) hM.nd (fun b o' e => ?_) fun G g gx f hf' => ?_
  · refine if_neg fun e => ?_
    obtain ⟨ob, hob⟩ := (hM.own p hp).1.some
    rw [e, hn] at hob; cases hob
  · (try dsimp only at e)
    split at e
    · rename_i hb; cases e; subst hb; exact ⟨ho, .inr hn⟩
    · cases e
  · rcases List.mem_cons.mp hf' with rfl | hf'
    · exact .one (.obj (gx _ _ (if_pos rfl)))
    · exact g f hf'
theorem Mst.grownOwn (hM : Mst H0 B G₀ L m W D h) {h' : Heap} (hk : ∀ b o, h.get? b = some o → h'.get? b = some o) {a : Addr} {w : Wo} (hw : WoAt h' a w) (hn : h.get? a = none) : Mst H0 B G₀ L m ((a, w) :: W) D h' := by
  refine hM.next (fun _ => none) (hM.ns.at fun o e => hk L o e) (fun b o _ _ e => hk b o e) (fun p hp => ?_) ?_ (fun _ _ e => by cases e) fun _ g _ => g
  · rcases List.mem_cons.mp hp with rfl | hp
    · exact ⟨hw, rfl, .inr hn⟩
    · exact ⟨(hM.own p hp).1.at fun o e => hk _ o e, rfl, .inl ⟨p, hp, rfl⟩⟩
  · rw [List.map_cons, List.nodup_cons]
    refine ⟨fun hm => ?_, hM.nd⟩
    obtain ⟨p, hp, e⟩ := List.mem_map.mp hm
    obtain ⟨ob, ho⟩ := (hM.own p hp).1.some
    rw [e, hn] at ho; cases ho
theorem newNone (h : Heap) : h.get? h.objs.size = none := by
  cases e : h.get? h.objs.size with
  | none => rfl
  | some o => exact absurd (Heap.lt_size e) (Nat.lt_irrefl _)

/-- the library's own words for a frame and what was made since: all that stands, told so -/
theorem Mst.fr (hM : Mst H0 B G₀ L m W D h) : ∃ h₀ m' news, Fr h₀ L h m' ∧ News h₀ L h news ∧
    ∀ h' more, Fr h₀ L h' m' → News h₀ L h' (more ++ news) → (∀ b o, b ≠ L → h.get? b = some o → h'.get? b = some o) ∧ NsK h' L m := by
  obtain ⟨m', hn, hm⟩ := hM.ns
  let h₀ : Heap := { h with objs := h.objs.extract 0 L }
  have e0 : ∀ b : Nat, b < L → h₀.get? b = h.get? b := fun b hb => by
    have : h₀.objs[b]? = h.objs[b]? := by
      show (h.objs.extract 0 L)[b]? = _
      rw [Array.getElem?_extract]
      by_cases hs : b < h.objs.size
      · rw [if_pos (by omega), Nat.zero_add]
      · rw [if_neg (by omega), Array.getElem?_eq_none (by omega)]
    unfold Heap.get?
    rw [this]
  have e1 : ∀ b : Nat, ¬ b < L → h₀.get? b = none := fun b hb => by
    have : h₀.objs[b]? = none := by
      show (h.objs.extract 0 L)[b]? = _
      rw [Array.getElem?_extract, if_neg (by omega)]
    unfold Heap.get?
    rw [this]
  let news : List (Addr × Obj) := (List.range h.objs.size).filterMap fun b => if b ≤ L then none else (h.get? b).map (b, ·)
  have inN : ∀ b o, L < b → h.get? b = some o → (b, o) ∈ news := fun b o hb e => by
    refine List.mem_filterMap.mpr ⟨b, List.mem_range.mpr (Heap.lt_size e), ?_⟩
    rw [if_neg (Nat.not_le.mpr hb), e]; rfl
  refine ⟨h₀, m', news, ⟨hn, fun b o e => ?_, ?_⟩, fun p hp => ?_, fun h' more F N => ⟨fun b o hb e => ?_, ⟨m', F.ns, hm⟩⟩⟩
  · by_cases hb : b < L
    · rw [← e0 b hb]; exact e
    · rw [e1 b hb] at e; cases e
  · show (h.objs.extract 0 L).size ≤ L
    rw [Array.size_extract]; omega
  · obtain ⟨b, _, hb⟩ := List.mem_filterMap.mp hp
    split at hb
    · cases hb
    · rename_i hL
      obtain ⟨o, ho, rfl⟩ := Option.map_eq_some_iff.mp hb
      exact ⟨ho, fun e => hL (e ▸ Nat.le_refl _), e1 b fun q => hL (Nat.le_of_lt q)⟩
  · rcases Nat.lt_or_ge b L with hl | hl
    · exact F.keep b o (by rw [e0 b hl]; exact e)
    · exact (N (b, o) (List.mem_append.mpr (.inr (inN b o (Nat.lt_of_le_of_ne hl (Ne.symm hb)) e)))).1
/-- after a step told in those words that made one object -/
theorem Mst.made (hM : Mst H0 B G₀ L m W D h) {h' : Heap} {a : Addr} {o : Obj} (k : (∀ b o, b ≠ L → h.get? b = some o → h'.get? b = some o) ∧ NsK h' L m) (ho : h'.get? a = some o) (hn : h.get? a = none) : Mst H0 B G₀ L m W (([.ref a], [.obj o]) :: D) h' := by
  obtain ⟨kb, kn⟩ := k
  refine hM.next (fun b => if b = a then some o else none) kn (fun b o hb _ e => kb b o hb e) (fun p hp => ⟨(hM.own p hp).1.at fun o e => kb _ o (hM.own p hp).2.2 e, ?_, .inl ⟨p, hp, rfl⟩⟩) hM.nd (fun b o' e => ?_) fun G g gx f hf' => ?_
  · refine if_neg fun e => ?_
    obtain ⟨ob, hob⟩ := (hM.own p hp).1.some
    rw [e, hn] at hob; cases hob
  · (try dsimp only at e)
    split at e
    · rename_i hb; cases e; subst hb; exact ⟨ho, .inr hn⟩
    · cases e
  · rcases List.mem_cons.mp hf' with rfl | hf'
    · exact .one (.obj (gx _ _ (if_pos rfl)))
    · exact g f hf'
theorem Mst.madeOwn (hM : Mst H0 B G₀ L m W D h) {h' : Heap} {a : Addr} {w : Wo} (k : (∀ b o, b ≠ L → h.get? b = some o → h'.get? b = some o) ∧ NsK h' L m) (hw : WoAt h' a w) (hn : h.get? a = none) : Mst H0 B G₀ L m ((a, w) :: W) D h' := by
  obtain ⟨kb, kn⟩ := k
  refine hM.next (fun _ => none) kn (fun b o hb _ e => kb b o hb e) (fun p hp => ?_) ?_ (fun _ _ e => by cases e) fun _ g _ => g
  · rcases List.mem_cons.mp hp with rfl | hp
    · exact ⟨hw, rfl, .inr hn⟩
    · exact ⟨(hM.own p hp).1.at fun o e => kb _ o (hM.own p hp).2.2 e, rfl, .inl ⟨p, hp, rfl⟩⟩
  · rw [List.map_cons, List.nodup_cons]
    refine ⟨fun hm => ?_, hM.nd⟩
    obtain ⟨p, hp, e⟩ := List.mem_map.mp hm
    obtain ⟨ob, ho⟩ := (hM.own p hp).1.some
    rw [e, hn] at ho; cases ho

/-! ## lists -/
/-- two lists are laid one behind the other: a new list -/
theorem m_addl {a b : Addr} {vs us : Array Value} {Q : Value → Shared → Prop} (hM : Mst H0 B G₀ L m W D h) (i : LstIn W D a vs) (j : LstIn W D b us) (hsz : vs.size + us.size ≤ sizeLine)
    (q : ∀ r h' t', Mst H0 B G₀ L m ((r, .lst (vs.toList ++ us.toList).toArray) :: W) D h' → Q (.ref r) ⟨h', g, d, t', os⟩) : wpAny (model prog w) A (binaryOp .Add (.ref a) (.ref b)) Q E ⟨h, g, d, t, os⟩ := by
  obtain ⟨h₀, m', news, F, N, k⟩ := hM.fr
  refine add_arrays (s := ⟨h, g, d, t, os⟩) F N (hM.lst i) (hM.lst j) (fun h' F' N' => q _ _ _ (hM.madeOwn (k h' [_] F' N') ⟨_, (N' _ (.head _)).1⟩ (newNone h))) hsz
theorem m_mull {a : Addr} {b : Int} {tb : Tok} {x : Int} {u : Tok} {Q : Value → Shared → Prop} (hM : Mst H0 B G₀ L m W D h) (i : LstIn W D a #[.int b tb]) (hlo : -(2 ^ 63 : Int) ≤ x) (hhi : x < 2 ^ 20)
    (q : ∀ r h' t', Mst H0 B G₀ L m ((r, .lsx (List.replicate x.toNat (Value.int b tb)).toArray) :: W) D h' → Q (.ref r) ⟨h', g, d, t', os⟩) : wpAny (model prog w) A (binaryOp .Mult (.ref a) (.int x u)) Q E ⟨h, g, d, t, os⟩ := by
  obtain ⟨h₀, m', news, F, N, k⟩ := hM.fr
  exact mul_list_is (s := ⟨h, g, d, t, os⟩) (vs := [.int b tb]) F N (hM.lst i) (.cons (.int _ _) .nil) hlo (Int.lt_of_lt_of_le hhi (by decide)) (by rw [List.length_singleton, Nat.one_mul]; omega)
    (fun h' F' N' hn hl hc => q _ h' t (hM.madeOwn (k h' [] F' N') (show h'.IsList _ _ by rw [List.flatten_replicate_singleton] at hl; exact hl) (newNone h)))
theorem m_lenl {a : Addr} {vs : Array Value} {Q : Value → Shared → Prop} (hM : Mst H0 B G₀ L m W D h) (i : LstIn W D a vs) (hsz : vs.size ≤ sizeLine) (q : ∀ u, Q (.int vs.size u) ⟨h, g, d, t + 1 + 1, os⟩) :
    wpAny (model prog w) A (call (.builtin "len") [.ref a]) Q E ⟨h, g, d, t, os⟩ := Calls.call_len_list (hM.lst i) (by rw [sizeLine_eq] at hsz; omega) (q _)
theorem m_iteml {value slice : Expr} {a : Addr} {vs : Array Value} {k : Int} {u : Tok} {x : Value} {Q : Value → Shared → Prop} (hM : Mst H0 B G₀ L m W D h) (i : LstIn W D a vs) (h0 : 0 ≤ k) (hfit : k < 2 ^ 63) (hx : vs[k.toNat]? = some x) (q : Q x ⟨h, g, d, t, os⟩)
    (hs : subscripted slice false (.ref a) (.int k u) = operate [.ref a, .int k u] (getItem (.ref a) (.int k u)) := by with_unfolding_all rfl) (hg : ∀ r, letTemporaryGo value (.ref a) r = pure () := by intro _; with_unfolding_all rfl) :
    wpAny (model prog w) A (subscriptTail value slice (.ref a) (.int k u)) Q E ⟨h, g, d, t, os⟩ := PyProof.Rows.item_list (s := ⟨h, g, d, t, os⟩) (hM.lst i) h0 hfit hx q hs hg
theorem m_seti {a : Addr} {wo : Wo} {vs : Array Value} {k : Int} {u : Tok} {v : Value} {Q : Unit → Shared → Prop} (hM : Mst H0 B G₀ L m W D h) (up : WUp a wo (.lsx (vs.setIfInBounds k.toNat v)) W W') (hwo : wo = .lst vs ∨ wo = .lsx vs) (h0 : 0 ≤ k) (hfit : k < 2 ^ 63) (hn : k < vs.size)
    (q : ∀ h' t', Mst H0 B G₀ L m W' D h' → Q () ⟨h', g, d, t', os⟩) : wpAny (model prog w) A (setItem (.ref a) (.int k u) v) Q E ⟨h, g, d, t, os⟩ := by
  have i : LstIn W D a vs := by
    rcases hwo with rfl | rfl
    · exact .own up.mem
    · exact .ownx up.mem
  exact wpAny_setItem_list (s := ⟨h, g, d, t, os⟩) (hM.lst i) h0 hfit hn fun h' he hs => q h' t (hM.up up he fun b o hb e => (hs.2 b hb).trans e)
theorem m_tupl {a : Addr} {vs : Array Value} {ds : List Da} {Q : Value → Shared → Prop} (hM : Mst H0 B G₀ L m W D h) (i : LstIn W D a vs) (hf : ∀ G : Gr, (∀ f ∈ D, DaAll G f.1 f.2) → DaAll G vs.toList ds) (hsz : vs.size ≤ sizeLine)
    (q : ∀ r h' t', Mst H0 B G₀ L m W (([.ref r], [.tup ds]) :: D) h' → Q (.ref r) ⟨h', g, d, t', os⟩) : wpAny (model prog w) A (call (.type "tuple") [.ref a]) Q E ⟨h, g, d, t, os⟩ := by
  refine call_tuple_list (hM.lst i) (fun h' hk => q _ _ t ?_) hsz
  have hM' := (hM.grown hk).push { cls := .type "tuple", data := .seq vs } rfl
  refine hM'.facts fun G gf f hf' => ?_
  rcases List.mem_cons.mp hf' with rfl | hf'
  · have h1 := (gf _ (.head _)).head
    cases h1 with
    | obj e => exact .one (.tup e ⟨rfl, _, rfl⟩ (hf G fun f hf => gf f (.tail _ hf)))
  · exact gf f (.tail _ hf')
end
end Mine
end
section
open PySem PySem.W PySem.Calls PySem.Spec PyProof.Rows
set_option Elab.async false
set_option maxRecDepth 100000
namespace Mine
theorem ws_ok (P : Params) : ClsOk (KF P) 107 := ⟨by kernel_rfl, by kernel_rfl, by kernel_rfl, by kernel_rfl, by kernel_rfl⟩
theorem hd_ok (P : Params) : ClsOk (KF P) 255 := ⟨by kernel_rfl, by kernel_rfl, by kernel_rfl, by kernel_rfl, by kernel_rfl⟩
theorem ws_makes (P : Params) : makesIn (KF P) 107 = true := by kernel_rfl
theorem hd_makes (P : Params) : makesIn (KF P) 255 = true := by kernel_rfl
theorem ws_init (P : Params) : findIn (KF P) (.ref 107) "__init__" = some (some (.ref 62)) := by kernel_rfl
theorem hd_init (P : Params) : findIn (KF P) (.ref 255) "__init__" = some (some (.ref 149)) := by kernel_rfl
theorem ws_no_raw (P : Params) : findIn (KF P) (.ref 107) "raw" = some none := by kernel_rfl
theorem ws_no_n (P : Params) : findIn (KF P) (.ref 107) "n" = some none := by kernel_rfl
theorem ws_no_nt (P : Params) : findIn (KF P) (.ref 107) "nt" = some none := by kernel_rfl
theorem ws_no_norm (P : Params) : findIn (KF P) (.ref 107) "norm" = some none := by kernel_rfl
theorem ws_no_simple (P : Params) : findIn (KF P) (.ref 107) "is_simple" = some none := by kernel_rfl
theorem hd_no_headers (P : Params) : findIn (KF P) (.ref 255) "_headers" = some none := by kernel_rfl
theorem ws_reads (P : Params) : readsIn (KF P) 107 (.type "type") = true := by kernel_rfl
theorem ws_S (P : Params) : ∃ u, findCls (KF P) (.ref 107) (.type "type") "S" = some (.val (.str " " u)) := ⟨_, by rfl⟩
theorem ws_T (P : Params) : ∃ u, findCls (KF P) (.ref 107) (.type "type") "T" = some (.val (.str "\t" u)) := ⟨_, by rfl⟩
end Mine
end
section
open PySem PySem.W PySem.Calls PySem.Spec PyProof.Rows
set_option Elab.async false
set_option maxRecDepth 100000
namespace Mine

section
variable {prog : Program} {w : World} {A : Around} {E : Value → Shared → Prop} {K : Frag} {H0 : Heap} {B G₀ : Gr} {L : Addr} {m : Loc} {l : List (Str × Value)} {W W' : Own} {D : Facts} {h : Heap} {g : Array GenState} {d : Drawn} {t : Nat} {os : OsState} {env : Env} {ns : List (Str × NameKind)} {cl : List (Str × Addr)} {v : Value}

/-! ## what a fact says of a value -/
theorem Mst.isStr {x : Str} (hM : Mst H0 B G₀ L m W D h) (hf : ([v], [.str x]) ∈ D) : ∃ tk, v = .str x tk := by
  obtain ⟨G, _, g⟩ := hM.told
  have := (g _ hf).head
  cases this with
  | str _ t => exact ⟨t, rfl⟩
theorem Mst.isInt {x : Int} (hM : Mst H0 B G₀ L m W D h) (hf : ([v], [.int x]) ∈ D) : ∃ tk, v = .int x tk := by
  obtain ⟨G, _, g⟩ := hM.told
  have := (g _ hf).head
  cases this with
  | int _ t => exact ⟨t, rfl⟩
theorem Mst.isAdr {a : Addr} (hM : Mst H0 B G₀ L m W D h) (hf : ([v], [.adr a]) ∈ D) : v = .ref a := by
  obtain ⟨G, _, g⟩ := hM.told
  have := (g _ hf).head
  cases this with
  | adr a => rfl
theorem Mst.isNone (hM : Mst H0 B G₀ L m W D h) (hf : ([v], [.none]) ∈ D) : v = .none := by
  obtain ⟨G, _, g⟩ := hM.told
  have := (g _ hf).head
  cases this with
  | none => rfl
theorem Mst.isLst {ds : List Da} (hM : Mst H0 B G₀ L m W D h) (hf : ([v], [.lst ds]) ∈ D) : ∃ a, v = .ref a := by
  obtain ⟨G, _, g⟩ := hM.told
  have := (g _ hf).head
  cases this with
  | lst h _ => exact ⟨_, rfl⟩
theorem Mst.isTup {ds : List Da} (hM : Mst H0 B G₀ L m W D h) (hf : ([v], [.tup ds]) ∈ D) : ∃ a, v = .ref a := by
  obtain ⟨G, _, g⟩ := hM.told
  have := (g _ hf).head
  cases this with
  | tup h _ => exact ⟨_, rfl⟩
theorem Mst.has {vs : List Value} {ds : List Da} (hM : Mst H0 B G₀ L m W D h) (hf : (vs, ds) ∈ D) : vs.length = ds.length := by
  obtain ⟨G, _, g⟩ := hM.told
  exact (g _ hf).length
theorem Mst.two {vs : List Value} {d₁ d₂ : Da} (hM : Mst H0 B G₀ L m W D h) (hf : (vs, [d₁, d₂]) ∈ D) : ∃ v₁ v₂, vs = [v₁, v₂] ∧ Mst H0 B G₀ L m W (([v₁], [d₁]) :: ([v₂], [d₂]) :: D) h := by
  have hl := hM.has hf
  match vs, hl with
  | [v₁, v₂], _ => exact ⟨v₁, v₂, rfl, (hM.with (f := ([v₂], [d₂])) fun G g => .one (g _ hf).tail.head).with fun G g => .one (g _ (.tail _ hf)).head⟩
theorem Mst.three {vs : List Value} {d₁ d₂ d₃ : Da} (hM : Mst H0 B G₀ L m W D h) (hf : (vs, [d₁, d₂, d₃]) ∈ D) : ∃ v₁ v₂ v₃, vs = [v₁, v₂, v₃] ∧ Mst H0 B G₀ L m W (([v₁], [d₁]) :: ([v₂], [d₂]) :: ([v₃], [d₃]) :: D) h := by
  have hl := hM.has hf
  match vs, hl with
  | [v₁, v₂, v₃], _ => exact ⟨v₁, v₂, v₃, rfl, ((hM.with (f := ([v₃], [d₃])) fun G g => .one (g _ hf).tail.tail.head).with (f := ([v₂], [d₂])) fun G g => .one (g _ (.tail _ hf)).tail.head).with fun G g => .one (g _ (.tail _ (.tail _ hf))).head⟩
/-- the k-th of what is told -/
theorem Mst.nth {vs : List Value} {ds : List Da} {k : Nat} {d : Da} (hM : Mst H0 B G₀ L m W D h) (hf : (vs, ds) ∈ D) (hk : ds[k]? = some d) : ∃ v, vs[k]? = some v ∧ Mst H0 B G₀ L m W (([v], [d]) :: D) h := by
  have hl := hM.has hf
  obtain ⟨hk', hd⟩ := List.getElem?_eq_some_iff.mp hk
  have hv : vs[k]? = some (vs[k]'(hl ▸ hk')) := List.getElem?_eq_getElem _
  refine ⟨_, hv, hM.with fun G g => ?_⟩
  obtain ⟨d', hd', hi⟩ := (g _ hf).at hv
  rw [hk] at hd'; cases hd'
  exact .one hi

theorem extKeep {h h' : Heap} (x : Heap.ExtBut h.objs.size h h') : ∀ b o, h.get? b = some o → h'.get? b = some o := fun b o e => x b o (Nat.ne_of_lt (Heap.lt_size e)) e

/-! ## statements -/
theorem m_asn {M : Model} {x : Str} {px : Pos} {v : Value} {Q : Unit → Shared → Prop} (hE : EnvIs env L ns cl) (hM : Mst H0 B G₀ L (lk l) W D h) (hl : ns.lookup x = some .local)
    (q : ∀ h' t', Mst H0 B G₀ L (lk ((x, v) :: l)) W D h' → Q () ⟨h', g, d, t', os⟩) : wpAny M A (assign (.Name x px) env v) Q E ⟨h, g, d, t, os⟩ := as_name hE hM hl q
theorem m_un2 {e₁ e₂ : Expr} {k : Nat} {pos : Pos} {a : Addr} {d₁ d₂ : Da} {Q : Unit → Shared → Prop} (hA : A.handled = none) (hM : Mst H0 B G₀ L m W D h) (hf : ([.ref a], [.tup [d₁, d₂]]) ∈ D)
    (q : ∀ v₁ v₂ h' t', Mst H0 B G₀ L m W (([v₁], [d₁]) :: ([v₂], [d₂]) :: D) h' → wpAny (model prog w) A (assign e₁ env v₁) (fun _ s₁ => wpAny (model prog w) A (assign e₂ env v₂) Q E s₁) E ⟨h', g, d, t', os⟩)
    (he : assignEach [e₁, e₂] env = [(false, assign e₁ env), (false, assign e₂ env)] := by rfl) : wpAny (model prog w) A (assign (.Tuple [e₁, e₂] k pos) env (.ref a)) Q E ⟨h, g, d, t, os⟩ := by
  obtain ⟨vs, ht, -, -, hsz, hM⟩ := hM.titems hf
  obtain ⟨v₁, v₂, hvs, hM⟩ := hM.two (.head _)
  refine wpAny_assign_Tuple (s := ⟨h, g, d, t, os⟩) hA ht (by rw [he, hsz]; rfl) (by rw [he]; rfl) fun h' hx => ?_
  rw [he, hvs]
  exact wpAny_assignInOrder_more (wpAny_mono (q v₁ v₂ h' t ((hM.grown (extKeep hx)).facts fun G g f hf => by
    rcases List.mem_cons.mp hf with rfl | hf
    · exact g _ (.head _)
    rcases List.mem_cons.mp hf with rfl | hf
    · exact g _ (.tail _ (.head _))
    · exact g f (.tail _ (.tail _ (.tail _ hf))))) (fun _ s₁ z => wpAny_assignInOrder_more (wpAny_mono z (fun _ _ y => wpAny_assignInOrder_none y) fun _ _ y => y)) fun _ _ y => y)
theorem m_un2s {a : Addr} {d₁ d₂ : Da} {Q : List Value → Shared → Prop} (hA : A.handled = none) (hM : Mst H0 B G₀ L m W D h) (hf : ([.ref a], [.tup [d₁, d₂]]) ∈ D)
    (q : ∀ v₁ v₂ h' t', Mst H0 B G₀ L m W (([v₁], [d₁]) :: ([v₂], [d₂]) :: D) h' → Q [v₁, v₂] ⟨h', g, d, t', os⟩) : wpAny (model prog w) A (unpackItems (.ref a) 2 none) Q E ⟨h, g, d, t, os⟩ := by
  obtain ⟨vs, ht, -, -, hsz, hM⟩ := hM.titems hf
  obtain ⟨v₁, v₂, hvs, hM⟩ := hM.two (.head _)
  have e : (2 : Nat) = vs.size := hsz.symm
  rw [e]
  refine wpAny_unpackItems_tuple (s := ⟨h, g, d, t, os⟩) hA ht fun h' hx => ?_
  rw [hvs]
  exact q v₁ v₂ h' t ((hM.grown (extKeep hx)).facts fun G g f hf => by
    rcases List.mem_cons.mp hf with rfl | hf
    · exact g _ (.head _)
    rcases List.mem_cons.mp hf with rfl | hf
    · exact g _ (.tail _ (.head _))
    · exact g f (.tail _ (.tail _ (.tail _ hf))))
theorem m_un3s {a : Addr} {d₁ d₂ d₃ : Da} {Q : List Value → Shared → Prop} (hA : A.handled = none) (hM : Mst H0 B G₀ L m W D h) (hf : ([.ref a], [.tup [d₁, d₂, d₃]]) ∈ D)
    (q : ∀ v₁ v₂ v₃ h' t', Mst H0 B G₀ L m W (([v₁], [d₁]) :: ([v₂], [d₂]) :: ([v₃], [d₃]) :: D) h' → Q [v₁, v₂, v₃] ⟨h', g, d, t', os⟩) : wpAny (model prog w) A (unpackItems (.ref a) 3 none) Q E ⟨h, g, d, t, os⟩ := by
  obtain ⟨vs, ht, -, -, hsz, hM⟩ := hM.titems hf
  obtain ⟨v₁, v₂, v₃, hvs, hM⟩ := hM.three (.head _)
  have e : (3 : Nat) = vs.size := hsz.symm
  rw [e]
  refine wpAny_unpackItems_tuple (s := ⟨h, g, d, t, os⟩) hA ht fun h' hx => ?_
  rw [hvs]
  exact q v₁ v₂ v₃ h' t ((hM.grown (extKeep hx)).facts fun G g f hf => by
    rcases List.mem_cons.mp hf with rfl | hf
    · exact g _ (.head _)
    rcases List.mem_cons.mp hf with rfl | hf
    · exact g _ (.tail _ (.head _))
    rcases List.mem_cons.mp hf with rfl | hf
    · exact g _ (.tail _ (.tail _ (.head _)))
    · exact g f (.tail _ (.tail _ (.tail _ (.tail _ hf)))))
theorem m_bindName {M : Model} {x : Str} {v : Value} {Q : Unit → Shared → Prop} (hE : EnvIs env L ns cl) (hM : Mst H0 B G₀ L (lk l) W D h) (hl : ns.lookup x = some .local)
    (q : ∀ h' t', Mst H0 B G₀ L (lk ((x, v) :: l)) W D h' → Q () ⟨h', g, d, t', os⟩) : wpAny M A (bindName env x v) Q E ⟨h, g, d, t, os⟩ := wpAny_bindName (m_st hE hM hl q)

/-! ## strings -/
theorem m_adds {x y : Str} {u v : Tok} {Q : Value → Shared → Prop} (hM : Mst H0 B G₀ L m W D h) (hsz : x.length + y.length ≤ sizeLine) (q : ∀ u' t', Q (.str (x ++ y) u') ⟨h, g, d, t', os⟩) :
    wpAny (model prog w) A (binaryOp .Add (.str x u) (.str y v)) Q E ⟨h, g, d, t, os⟩ := PyProof.Rows.add_str (s := ⟨h, g, d, t, os⟩) (fun u' tk => q u' tk) hsz
theorem m_lens {x : Str} {u : Tok} {Q : Value → Shared → Prop} (hsz : x.length ≤ sizeLine) (q : ∀ u', Q (.int x.length u') ⟨h, g, d, t + 1 + 1, os⟩) :
    wpAny (model prog w) A (call (.builtin "len") [.str x u]) Q E ⟨h, g, d, t, os⟩ := PyProof.Rows.len_str (s := ⟨h, g, d, t, os⟩) (by rw [sizeLine_eq] at hsz; omega) (q _)
theorem m_max {a b : Int} {u v : Tok} {Q : Value → Shared → Prop} (hA : A.handled = none) (hM : Mst H0 B G₀ L m W D h) (q : ∀ u' h' t', Mst H0 B G₀ L m W D h' → Q (.int (if b > a then b else a) u') ⟨h', g, d, t', os⟩) :
    wpAny (model prog w) A (call (.builtin "max") [.int a u, .int b v]) Q E ⟨h, g, d, t, os⟩ :=
  max_two_ints (s := ⟨h, g, d, t, os⟩) hA fun h' tk hk => by
    have hM' := hM.grown hk
    by_cases hc : b > a
    · have := q v h' tk hM'; rw [if_pos hc] at this ⊢; exact this
    · have := q u h' tk hM'; rw [if_neg hc] at this ⊢; exact this
/-- an attribute of a class's own -/
theorem m_cls {C : Addr} {mc : Value} {name : Str} {v : Value} {expr : Bool} {Q : Value → Shared → Prop} (gd : Gd K H0) (hM : Mst H0 B G₀ L m W D h) (hr : readsIn K C mc = true) (e : findCls K (.ref C) mc name = some (.val v)) (hh : handedIn v = true)
    (q : Q v ⟨h, g, d, t + 1, os⟩) : wpAny (model prog w) A (getAttr (.ref C) name expr) Q E ⟨h, g, d, t, os⟩ := cls_value (s := ⟨h, g, d, t, os⟩) (gd.X.keeps hM.low) hr e hh q
end
end Mine
end
section
open PySem PySem.W PySem.Calls PySem.Spec PyProof.Rows
set_option Elab.async false
set_option maxRecDepth 100000
namespace Mine
theorem Both.isT {P P' : Prop} (h : Both true P P') : P := h
theorem Both.isF {P P' : Prop} (h : Both false P P') : P' := by unfold Both at h; rwa [if_neg (by decide)] at h
theorem Then.brk {M : Model} {A : Around} {rest : List Stmt} {env : Env} {Q : Flow → Shared → Prop} {E : Value → Shared → Prop} {s : Shared} (h : Q .brk s) : Then M A rest env Q E .brk s := h
theorem Then.ret {M : Model} {A : Around} {rest : List Stmt} {env : Env} {Q : Flow → Shared → Prop} {E : Value → Shared → Prop} {v : Value} {s : Shared} (h : Q (.ret v) s) : Then M A rest env Q E (.ret v) s := h

section
variable {prog : Program} {w : World} {A : Around} {E : Value → Shared → Prop} {K : Frag} {H0 : Heap} {B G₀ : Gr} {L : Addr} {m : Loc} {l : List (Str × Value)} {W W' : Own} {D : Facts} {h : Heap} {g : Array GenState} {d : Drawn} {t : Nat} {os : OsState} {env : Env} {ns : List (Str × NameKind)} {cl : List (Str × Addr)} {v : Value}
theorem Mst.last {p : Addr × Wo} (hM : Mst H0 B G₀ L m (p :: W) D h) : Mst H0 B G₀ L m (W ++ [p]) D h := by
  refine hM.less (fun q hq => ?_) ?_
  · rcases List.mem_append.mp hq with hq | hq
    · exact .tail _ hq
    · rw [List.mem_singleton.mp hq]; exact .head _
  · have := hM.nd
    rw [List.map_cons, List.nodup_cons] at this
    rw [List.map_append, List.nodup_append]
    refine ⟨this.2, by simp, fun a ha b hb e => ?_⟩
    have : b = p.1 := by simpa using hb
    subst e; subst this
    exact absurd ha (by assumption : p.1 ∉ W.map (·.1) ∧ _).1
theorem Mst.first {p : Addr × Wo} (hM : Mst H0 B G₀ L m (W ++ [p]) D h) : Mst H0 B G₀ L m (p :: W) D h := by
  refine hM.less (fun q hq => ?_) ?_
  · rcases List.mem_cons.mp hq with rfl | hq
    · exact List.mem_append.mpr (.inr (.head _))
    · exact List.mem_append.mpr (.inl hq)
  · have := hM.nd
    rw [List.map_append, List.nodup_append] at this
    rw [List.map_cons, List.nodup_cons]
    exact ⟨fun hm => this.2.2 _ hm _ (.head _) rfl, this.1⟩

theorem Mst.pick (hM : Mst H0 B G₀ L m W D h) (hs : W'.Sublist W) : Mst H0 B G₀ L m W' D h :=
  hM.less (fun _ hp => hs.subset hp) ((hs.map _).nodup hM.nd)
/-- a test whose two ways meet again -/
theorem m_ifJ {test : Expr} {body orelse : List Stmt} {pos : Pos} {Q : Flow → Shared → Prop} (_hM : Mst H0 B G₀ L m W D h) (P : List (Str × Value) → Own → Facts → Prop)
    (q : ∀ T : Flow → Shared → Prop, (∀ l' W' D' h' t', Mst H0 B G₀ L (lk l') W' D' h' → P l' W' D' → T .next ⟨h', g, d, t', os⟩) →
      wpAny (model prog w) A (isTrue test env (eval test env)) (fun b s₂ => Both b (wpAny (model prog w) A (execs body env) T E s₂) (wpAny (model prog w) A (execs orelse env) T E s₂)) E ⟨h, g, d, t, os⟩)
    (cont : ∀ l' W' D' h' t', P l' W' D' → Mst H0 B G₀ L (lk l') W' D' h' → Q .next ⟨h', g, d, t', os⟩) : wpAny (model prog w) A (exec (.If test body orelse pos) env) Q E ⟨h, g, d, t, os⟩ :=
  m_if (wpAny_mono (q (fun f s' => match f with | .next => ∃ l' W' D' h' t', s' = ⟨h', g, d, t', os⟩ ∧ Mst H0 B G₀ L (lk l') W' D' h' ∧ P l' W' D' | _ => False) fun l' W' D' h' t' hM p => ⟨l', W', D', h', t', rfl, hM, p⟩) (fun b s₂ z => by
    have k : ∀ f s', (match f with | .next => ∃ l' W' D' h' t', s' = ⟨h', g, d, t', os⟩ ∧ Mst H0 B G₀ L (lk l') W' D' h' ∧ P l' W' D' | _ => False) → Q f s' := by
      intro f s' y
      cases f with
      | next => obtain ⟨l', W', D', h', t', rfl, hM, p⟩ := y; exact cont _ _ _ _ _ p hM
      | _ => exact y.elim
    cases b with
    | true => exact wpAny_mono (Both.isT z) (fun f s' y => k f s' y) fun _ _ y => y
    | false => exact Both.ff (wpAny_mono (Both.isF z) (fun f s' y => k f s' y) fun _ _ y => y)) fun _ _ y => y)
theorem m_ifend {P : List (Str × Value) → Own → Facts → Prop} {T : Flow → Shared → Prop} {l l' : List (Str × Value)} {W' : Own} {D' D'' : Facts} (hT : ∀ l' W' D' h' t', Mst H0 B G₀ L (lk l') W' D' h' → P l' W' D' → T .next ⟨h', g, d, t', os⟩) (hM : Mst H0 B G₀ L (lk l) W' D' h) (j : P l' W' D'') (k : Kn (lk l) l')
    (hD : ∀ G : Gr, (∀ f ∈ D', DaAll G f.1 f.2) → ∀ f ∈ D'', DaAll G f.1 f.2) : T .next ⟨h, g, d, t, os⟩ := hT _ _ _ _ _ ((hM.know k).facts hD) j
/-- how a loop's turn may end, a break's end told too -/
structure TurnB (H0 : Heap) (B' G' : Gr) (L : Addr) (g : Array GenState) (d : Drawn) (os : OsState) (Q : Flow → Shared → Prop) (J Je : List (Str × Value) → Own → Facts → Prop) (T : Flow → Shared → Prop) : Prop where
  next : ∀ l' W' D' h' t', Mst H0 B' G' L (lk l') W' D' h' → J l' W' D' → T .next ⟨h', g, d, t', os⟩
  brk : ∀ l' W' D' h' t', Mst H0 B' G' L (lk l') W' D' h' → Je l' W' D' → T .brk ⟨h', g, d, t', os⟩
  ret : ∀ v s', Q (.ret v) s' → T (.ret v) s'
theorem n_strB {x : Str} {px : Pos} {y : Str} {ty : Tok} {body : List Stmt} {Q : Flow → Shared → Prop} {l₀ : List (Str × Value)} {D₀ : Facts} (hA : A.handled = none) (hE : EnvIs env L ns cl) (hl : ns.lookup x = some .local)
    (hM : Mst H0 B G₀ L (lk l₀) W D₀ h)
    (J : Nat → List (Str × Value) → Own → Facts → Prop) (Je : List (Str × Value) → Own → Facts → Prop) (j0 : J 0 l₀ W D₀)
    (turn : ∀ i (c : Nat) tc l₁ W' D' B' G' h' t' E' T, y.cps[i]? = some c → J i l₁ W' D' → Mst H0 B' G' L (lk ((x, .str ⟨#[c]⟩ tc) :: l₁)) W' D' h' →
      TurnB H0 B' G' L g d os Q (J (i + 1)) Je T → wpAny (model prog w) A (execs body env) T E' ⟨h', g, d, t', os⟩)
    (je : ∀ l₁ W' D', J y.cps.size l₁ W' D' → Je l₁ W' D')
    (done : ∀ l₁ W' D' h' t', Je l₁ W' D' → Mst H0 B G₀ L (lk l₁) W' D' h' → Q .next ⟨h', g, d, t', os⟩) :
    wpAny (model prog w) A (pyIter (.str y ty)) (fun it s₂ => codeAny (model prog w) A (.forLoop (.Name x px) it body [] env) (fun r s' => match r with | .ok f => Q f s' | .error e => cameBackBy (model prog w) A env E e s') s₂) E ⟨h, g, d, t, os⟩ :=
  n_str hA hE hl hM J j0 (fun i c tc l₁ W' D' B' G' h' t' E' T hc hj hM back hT => turn i c tc l₁ W' D' B' G' h' t' E' T hc hj hM
    ⟨hT.next, fun l' W' D' h' t' hM' j' => hT.brk _ (done _ _ _ _ _ j' (back _ _ _ _ hM')), hT.ret⟩) fun l₁ W' D' h' t' j hM => done _ _ _ _ _ (je _ _ _ j) hM
theorem m_tb_brk {B' G' : Gr} {Q : Flow → Shared → Prop} {J Je : List (Str × Value) → Own → Facts → Prop} {T : Flow → Shared → Prop} {l l' : List (Str × Value)} {W' : Own} {D' D'' : Facts} (hT : TurnB H0 B' G' L g d os Q J Je T) (hM : Mst H0 B' G' L (lk l) W' D' h) (j : Je l' W' D'') (k : Kn (lk l) l')
    (hD : ∀ G : Gr, (∀ f ∈ D', DaAll G f.1 f.2) → ∀ f ∈ D'', DaAll G f.1 f.2) : T .brk ⟨h, g, d, t, os⟩ := hT.brk _ _ _ _ _ ((hM.know k).facts hD) j
theorem m_tb_next {B' G' : Gr} {Q : Flow → Shared → Prop} {J Je : List (Str × Value) → Own → Facts → Prop} {T : Flow → Shared → Prop} {l l' : List (Str × Value)} {W' : Own} {D' D'' : Facts} (hT : TurnB H0 B' G' L g d os Q J Je T) (hM : Mst H0 B' G' L (lk l) W' D' h) (j : J l' W' D'') (k : Kn (lk l) l')
    (hD : ∀ G : Gr, (∀ f ∈ D', DaAll G f.1 f.2) → ∀ f ∈ D'', DaAll G f.1 f.2) : T .next ⟨h, g, d, t, os⟩ := hT.next _ _ _ _ _ ((hM.know k).facts hD) j
end
def envFor (ns : List (Str × NameKind)) : Env := { (default : Env) with scope := { (default : Scope) with kind := .function, names := ns } }
theorem swapped_as {env : Env} {L : Addr} {ns : List (Str × NameKind)} {cl : List (Str × Addr)} (hE : EnvIs env L ns cl) (ts : List Expr) (v : Expr) : swappedStores ts v env = swappedStores ts v (envFor ns) := by
  have e1 : env.kindOf = (envFor ns).kindOf := by
    funext x; unfold Env.kindOf; rw [hE.names]; rfl
  have e2 : (env.blockKind != .function) = ((envFor ns).blockKind != .function) := by
    unfold Env.blockKind; rw [hE.kind]; rfl
  unfold swappedStores
  rw [e1, e2]
theorem m_sw {M : Model} {A : Around} {E : Value → Shared → Prop} {s : Shared} {env : Env} {L : Addr} {ns : List (Str × NameKind)} {cl : List (Str × Addr)} {elts : List Expr} {k : Nat} {tpos : Pos} {value : Expr} {pos : Pos} {names : List Str} {Q : Flow → Shared → Prop} (hE : EnvIs env L ns cl)
    (hw : swappedStores [.Tuple elts k tpos] value (envFor ns) = pure (some names))
    (h : wpAny M A (eval value env) (fun v s₁ => wpAny M A (unpackItems v names.length none) (fun items s₂ => wpAny M A (assignInOrder (names.reverse.map fun n => bindName env n) items.reverse) (fun _ => Q .next) E s₂) E s₁) E s)
    (hs : swapsWithSole [.Tuple elts k tpos] value pos.line env = pure false := by rfl) : wpAny M A (exec (.Assign [.Tuple elts k tpos] value pos) env) Q E s :=
  Assign_Tuple_swapped h hs ((swapped_as hE _ _).trans hw)
theorem m_in2 {M : Model} {A : Around} {E : Value → Shared → Prop} {s : Shared} {env : Env} {a b : Str} {u v : Value} {Q : Unit → Shared → Prop} (h : wpAny M A (bindName env a u) (fun _ s₁ => wpAny M A (bindName env b v) Q E s₁) E s) :
    wpAny M A (assignInOrder ([a, b].map fun n => bindName env n) [u, v]) Q E s :=
  wpAny_assignInOrder_more (wpAny_mono h (fun _ _ z => wpAny_assignInOrder_more (wpAny_mono z (fun _ _ y => wpAny_assignInOrder_none y) fun _ _ y => y)) fun _ _ y => y)
theorem m_in3 {M : Model} {A : Around} {E : Value → Shared → Prop} {s : Shared} {env : Env} {a b c : Str} {u v x : Value} {Q : Unit → Shared → Prop} (h : wpAny M A (bindName env a u) (fun _ s₁ => wpAny M A (bindName env b v) (fun _ s₂ => wpAny M A (bindName env c x) Q E s₂) E s₁) E s) :
    wpAny M A (assignInOrder ([a, b, c].map fun n => bindName env n) [u, v, x]) Q E s :=
  wpAny_assignInOrder_more (wpAny_mono h (fun _ _ z => m_in2 z) fun _ _ y => y)
theorem DaAll.set {G : Gr} {vs : List Value} {ds : List Da} (h : DaAll G vs ds) (k : Nat) {v : Value} {d : Da} (hv : DaIn G v d) : DaAll G (vs.set k v) (ds.set k d) := by
  induction vs generalizing ds k with
  | nil => cases h; exact .nil
  | cons u vs ih => cases h with
    | cons h r => cases k with
      | zero => exact .cons hv r
      | succ k => exact .cons h (ih r k)
theorem DaAll.rep {G : Gr} {v : Value} {d : Da} (h : DaIn G v d) : ∀ n, DaAll G (List.replicate n v) (List.replicate n d)
  | 0 => .nil
  | n + 1 => .cons h (DaAll.rep h n)
theorem DaKeep {D : Facts} : ∀ G : Gr, (∀ f ∈ D, DaAll G f.1 f.2) → ∀ f ∈ D, DaAll G f.1 f.2 := fun _ g => g
end Mine
end
section
open PySem PySem.W PySem.Calls PySem.Spec PyProof.Rows
set_option Elab.async false
set_option maxRecDepth 100000
namespace Mine
theorem g_ELLIPSIS_MARKER (P : Params) : nsIn (KF P) mainGlobals (Str.ofString "ELLIPSIS_MARKER") = some (some (.str (Str.ofString "...") 291)) := by kernel_rfl
theorem g__ellipsis_match (P : Params) : nsIn (KF P) mainGlobals (Str.ofString "_ellipsis_match") = some (some (.ref 45)) := by kernel_rfl
theorem g_Whitespace (P : Params) : nsIn (KF P) mainGlobals (Str.ofString "Whitespace") = some (some (.ref 107)) := by kernel_rfl
theorem g_Headers (P : Params) : nsIn (KF P) mainGlobals (Str.ofString "Headers") = some (some (.ref 255)) := by kernel_rfl
theorem g__name_disallowed_re (P : Params) : nsIn (KF P) mainGlobals (Str.ofString "_name_disallowed_re") = some (some (.ref 121)) := by kernel_rfl
theorem g__value_disallowed_re (P : Params) : nsIn (KF P) mainGlobals (Str.ofString "_value_disallowed_re") = some (some (.ref 126)) := by kernel_rfl
theorem g__law_steps (P : Params) : nsIn (KF P) mainGlobals (Str.ofString "_law_steps") = some (some (.ref 266)) := by kernel_rfl
theorem g__law_columns (P : Params) : nsIn (KF P) mainGlobals (Str.ofString "_law_columns") = some (some (.ref 273)) := by kernel_rfl
theorem g__law_kept (P : Params) : nsIn (KF P) mainGlobals (Str.ofString "_law_kept") = some (some (.ref 278)) := by kernel_rfl
theorem g__law_put (P : Params) : nsIn (KF P) mainGlobals (Str.ofString "_law_put") = some (some (.ref 285)) := by kernel_rfl
theorem g__law_table_is_right (P : Params) : nsIn (KF P) mainGlobals (Str.ofString "_law_table_is_right") = some (some (.ref 290)) := by kernel_rfl
theorem g__law_found (P : Params) : nsIn (KF P) mainGlobals (Str.ofString "_law_found") = some (some (.ref 297)) := by kernel_rfl
theorem g__law_at_an_end (P : Params) : nsIn (KF P) mainGlobals (Str.ofString "_law_at_an_end") = some (some (.ref 304)) := by kernel_rfl
theorem g__law_played (P : Params) : nsIn (KF P) mainGlobals (Str.ofString "_law_played") = some (some (.ref 311)) := by kernel_rfl
theorem g_len (P : Params) : nsIn (KF P) mainGlobals (Str.ofString "len") = some none := by kernel_rfl
theorem b_len : bootBuiltins (Str.ofString "len") = some (.builtin "len") := by kernel_rfl
theorem g_range (P : Params) : nsIn (KF P) mainGlobals (Str.ofString "range") = some none := by kernel_rfl
theorem b_range : bootBuiltins (Str.ofString "range") = some (.type "range") := by kernel_rfl
theorem g_max (P : Params) : nsIn (KF P) mainGlobals (Str.ofString "max") = some none := by kernel_rfl
theorem b_max : bootBuiltins (Str.ofString "max") = some (.builtin "max") := by kernel_rfl
theorem g_tuple (P : Params) : nsIn (KF P) mainGlobals (Str.ofString "tuple") = some none := by kernel_rfl
theorem b_tuple : bootBuiltins (Str.ofString "tuple") = some (.type "tuple") := by kernel_rfl
theorem g_list (P : Params) : nsIn (KF P) mainGlobals (Str.ofString "list") = some none := by kernel_rfl
theorem b_list : bootBuiltins (Str.ofString "list") = some (.type "list") := by kernel_rfl
theorem g_str (P : Params) : nsIn (KF P) mainGlobals (Str.ofString "str") = some none := by kernel_rfl
theorem b_str : bootBuiltins (Str.ofString "str") = some (.type "str") := by kernel_rfl
theorem g_type (P : Params) : nsIn (KF P) mainGlobals (Str.ofString "type") = some none := by kernel_rfl
theorem b_type : bootBuiltins (Str.ofString "type") = some (.type "type") := by kernel_rfl
theorem g_zip (P : Params) : nsIn (KF P) mainGlobals (Str.ofString "zip") = some none := by kernel_rfl
theorem b_zip : bootBuiltins (Str.ofString "zip") = some (.type "zip") := by kernel_rfl
section
variable {A : Around} {E : Value → Shared → Prop} {K : Frag} {H0 : Heap} {B G₀ : Gr} {L : Addr} {m : Loc} {W : Own} {D : Facts} {h : Heap} {g : Array GenState} {d : Drawn} {t : Nat} {os : OsState} {env : Env} {ns : List (Str × NameKind)} {cl : List (Str × Addr)}
theorem m_ldl {M : Model} {x : Str} {pos : Pos} {v : Value} {Q : Value → Shared → Prop} (hE : EnvIs env L ns cl) (hM : Mst H0 B G₀ L m W D h) (hl : ns.lookup x = some .local) (hv : m x = some v) (q : Q v ⟨h, g, d, t, os⟩)
    (hd : (x == ("__debug__" : Str)) = false := by exact rfl) : wpAny M A (eval (.Name x pos) env) Q E ⟨h, g, d, t, os⟩ := m_ld hE hM hv hl q hd
theorem m_glg {M : Model} {x : Str} {pos : Pos} {v : Value} {Q : Value → Shared → Prop} (hE : EnvIs env L ns cl) (gd : Gd K H0) (hM : Mst H0 B G₀ L m W D h) (hv : nsIn K mainGlobals x = some (some v)) (hl : ns.lookup x = some .globalImplicit) (q : Q v ⟨h, g, d, t, os⟩)
    (hd : (x == ("__debug__" : Str)) = false := by exact rfl) : wpAny M A (eval (.Name x pos) env) Q E ⟨h, g, d, t, os⟩ := m_gl hE gd hM hv hl q hd
theorem m_big {M : Model} {x : Str} {pos : Pos} {v : Value} {Q : Value → Shared → Prop} (hE : EnvIs env L ns cl) (gd : Gd K H0) (hM : Mst H0 B G₀ L m W D h) (hv : nsIn K mainGlobals x = some none) (hw : bootBuiltins x = some v) (hl : ns.lookup x = some .globalImplicit) (q : Q v ⟨h, g, d, t, os⟩)
    (hn : (x == ("__name__" : Str)) = false := by exact rfl) (hd : (x == ("__debug__" : Str)) = false := by exact rfl) : wpAny M A (eval (.Name x pos) env) Q E ⟨h, g, d, t, os⟩ := m_bi hE gd hM hv hw (fun e => by rw [e, beq_self_eq_true] at hn; cases hn) hl q hd
end
end Mine
end
section
open PySem PySem.W PySem.Calls PySem.Spec PyProof.Rows
set_option Elab.async false
set_option maxRecDepth 100000
namespace Mine

mutual
def Da.py : Da → PyData
  | .none => .none
  | .bool b => .bool b
  | .int i => .int i
  | .str x => .str x
  | .tup ds => .tuple (Da.pys ds)
  | .lst ds => .list (Da.pys ds)
  | .obj _ => .none
  | .adr _ => .none
def Da.pys : List Da → List PyData
  | [] => []
  | d :: ds => d.py :: Da.pys ds
end
mutual
def Da.pl : Da → Bool
  | .tup ds => Da.pls ds
  | .lst ds => Da.pls ds
  | .obj _ => false
  | .adr _ => false
  | _ => true
def Da.pls : List Da → Bool
  | [] => true
  | d :: ds => d.pl && Da.pls ds
end
mutual
theorem DaIn.reads {G : Gr} {h : Heap} (hs : ∀ b o, G b = some o → h.get? b = some o) : ∀ {v : Value} {d : Da}, DaIn G v d → d.pl = true → ∃ as, Reads h v d.py as
  | _, _, .none, _ => ⟨_, .none⟩
  | _, _, .bool b, _ => ⟨_, .bool b⟩
  | _, _, .int i t, _ => ⟨_, .int i t⟩
  | _, _, .str x t, _ => ⟨_, .str x t⟩
  | _, _, .tup h o r, p => by
    obtain ⟨as, z⟩ := DaAll.reads hs r (by rw [Da.pl] at p; exact p)
    exact ⟨_, .tuple (hs _ _ h) o.1 o.2.choose_spec z⟩
  | _, _, .lst h o r, p => by
    obtain ⟨as, z⟩ := DaAll.reads hs r (by rw [Da.pl] at p; exact p)
    exact ⟨_, .list (hs _ _ h) o.1 o.2.choose_spec z⟩
  | _, _, .obj _, p => by rw [Da.pl] at p; cases p
  | _, _, .adr _, p => by rw [Da.pl] at p; cases p
theorem DaAll.reads {G : Gr} {h : Heap} (hs : ∀ b o, G b = some o → h.get? b = some o) : ∀ {vs : List Value} {ds : List Da}, DaAll G vs ds → Da.pls ds = true → ∃ as, ReadsAll h vs (Da.pys ds) as
  | _, _, .nil, _ => ⟨_, .nil⟩
  | _, _, .cons a r, p => by
    rw [Da.pls, Bool.and_eq_true] at p
    obtain ⟨_, x⟩ := DaIn.reads hs a p.1
    obtain ⟨_, y⟩ := DaAll.reads hs r p.2
    exact ⟨_, .cons x y⟩
end

theorem sidx {n len : Nat} (h : n < len) : seqIndex? (n : Int) len = some n := by
  unfold seqIndex?
  dsimp only
  have e : (if (n : Int) < 0 then (n : Int) + (len : Int) else (n : Int)) = n := if_neg (by omega)
  rw [e, if_pos (by rw [Bool.and_eq_true, decide_eq_true_eq, decide_eq_true_eq]; omega), Int.toNat_natCast]
theorem sidxLast {len : Nat} (h : 0 < len) : seqIndex? (-1) len = some (len - 1) := by
  unfold seqIndex?
  dsimp only
  have e : (if (-1 : Int) < 0 then (-1 : Int) + (len : Int) else (-1 : Int)) = ((len - 1 : Nat) : Int) := by rw [if_pos (by decide)]; omega
  rw [e, if_pos (by rw [Bool.and_eq_true, decide_eq_true_eq, decide_eq_true_eq]; omega), Int.toNat_natCast]
/-- data that may be compared -/
structure Cm (d : Da) : Prop where
  pl : d.pl = true
  lay : d.py.canLay0 = true
  dep : d.py.depth ≤ 3

section
variable {prog : Program} {w : World} {A : Around} {E : Value → Shared → Prop} {K : Frag} {H0 : Heap} {B G₀ : Gr} {L : Addr} {m : Loc} {l : List (Str × Value)} {W W' : Own} {D : Facts} {h : Heap} {g : Array GenState} {d : Drawn} {t : Nat} {os : OsState} {env : Env} {ns : List (Str × NameKind)} {cl : List (Str × Addr)} {v u : Value} {d₁ d₂ : Da}
theorem Mst.reads (hM : Mst H0 B G₀ L m W D h) (hf : ([v], [d₁]) ∈ D) (c : d₁.pl = true) : ∃ as, Reads h v d₁.py as := by
  obtain ⟨G, g1, g⟩ := hM.told
  exact (g _ hf).head.reads g1 c
theorem m_eqd {Q : Value → Shared → Prop} {dd : Nat} (hA : Rm A dd 4) (hM : Mst H0 B G₀ L m W D h) (h₁ : ([v], [d₁]) ∈ D) (h₂ : ([u], [d₂]) ∈ D) (c₁ : Cm d₁) (c₂ : Cm d₂) (q : Q (.bool (PyData.eqv d₁.py d₂.py)) ⟨h, g, d, t, os⟩) :
    wpAny (model prog w) A (compareOp .Eq v u) Q E ⟨h, g, d, t, os⟩ := by
  obtain ⟨_, r₁⟩ := hM.reads h₁ c₁.pl
  obtain ⟨_, r₂⟩ := hM.reads h₂ c₂.pl
  exact SeqAt.compareEq_reads (s := ⟨h, g, d, t, os⟩) r₁ r₂ c₁.lay c₂.lay (by have := hA.un; have := c₁.dep; have := Nat.min_le_left d₁.py.depth d₂.py.depth; omega) q
theorem m_ned {Q : Value → Shared → Prop} {dd : Nat} (hA : Rm A dd 4) (hM : Mst H0 B G₀ L m W D h) (h₁ : ([v], [d₁]) ∈ D) (h₂ : ([u], [d₂]) ∈ D) (c₁ : Cm d₁) (c₂ : Cm d₂) (q : Q (.bool (!PyData.eqv d₁.py d₂.py)) ⟨h, g, d, t, os⟩) :
    wpAny (model prog w) A (compareOp .NotEq v u) Q E ⟨h, g, d, t, os⟩ := by
  obtain ⟨_, r₁⟩ := hM.reads h₁ c₁.pl
  obtain ⟨_, r₂⟩ := hM.reads h₂ c₂.pl
  exact SeqAt.compareNe_reads (s := ⟨h, g, d, t, os⟩) r₁ r₂ c₁.lay c₂.lay (by have := hA.un; have := c₁.dep; have := Nat.min_le_left d₁.py.depth d₂.py.depth; omega) q
theorem m_ind {ds : List Da} {Q : Value → Shared → Prop} {dd : Nat} (hA : Rm A dd 5) (hM : Mst H0 B G₀ L m W D h) (h₁ : ([v], [d₁]) ∈ D) (h₂ : ([u], [.lst ds]) ∈ D) (c₁ : Cm d₁) (c₂ : Cm (.lst ds)) (q : Q (.bool ((Da.pys ds).any fun y => PyData.eqv y d₁.py)) ⟨h, g, d, t, os⟩) :
    wpAny (model prog w) A (compareOp .In v u) Q E ⟨h, g, d, t, os⟩ := by
  obtain ⟨_, r₁⟩ := hM.reads h₁ c₁.pl
  obtain ⟨_, r₂⟩ := hM.reads h₂ c₂.pl
  have hl : (Da.lst ds).py = .list (Da.pys ds) := by rw [Da.py]
  rw [hl] at r₂
  have c₂' := c₂.lay
  rw [hl, PyData.canLay0] at c₂'
  exact SeqAt.in_list_reads (s := ⟨h, g, d, t, os⟩) r₂ r₁ c₂' c₁.lay (by have := hA.un; have := c₁.dep; have := Nat.min_le_right (PyData.depthAll (Da.pys ds)) d₁.py.depth; omega) q
theorem m_notind {ds : List Da} {Q : Value → Shared → Prop} {dd : Nat} (hA : Rm A dd 5) (hM : Mst H0 B G₀ L m W D h) (h₁ : ([v], [d₁]) ∈ D) (h₂ : ([u], [.lst ds]) ∈ D) (c₁ : Cm d₁) (c₂ : Cm (.lst ds)) (q : Q (.bool (!(Da.pys ds).any fun y => PyData.eqv y d₁.py)) ⟨h, g, d, t, os⟩) :
    wpAny (model prog w) A (compareOp .NotIn v u) Q E ⟨h, g, d, t, os⟩ := by
  obtain ⟨_, r₁⟩ := hM.reads h₁ c₁.pl
  obtain ⟨_, r₂⟩ := hM.reads h₂ c₂.pl
  have hl : (Da.lst ds).py = .list (Da.pys ds) := by rw [Da.py]
  rw [hl] at r₂
  have c₂' := c₂.lay
  rw [hl, PyData.canLay0] at c₂'
  exact SeqAt.notIn_list_reads (s := ⟨h, g, d, t, os⟩) r₂ r₁ c₂' c₁.lay (by have := hA.un; have := c₁.dep; have := Nat.min_le_right (PyData.depthAll (Da.pys ds)) d₁.py.depth; omega) q
/-- a method of an instance, a def of its class -/
theorem m_gmeth {x C dx f : Addr} {fl : List (Str × Value)} {name : Str} {pl : Sem Bool} {Q : Value × List Value → Shared → Prop} (gd : Gd K H0) (hC : ClsOk K C) (hM : Mst H0 B G₀ L m W D h) (i : Inst W D x C dx fl)
    (hf : findIn K (.ref C) name = some (some (.ref f))) (ht : typeIn K (.ref f) = some (.type "function")) (hs : fl.lookup name = none) (q : Q (.ref f, [.ref x]) ⟨h, g, d, t, os⟩) : wpAny (model prog w) A (getMethod (.ref x) name pl) Q E ⟨h, g, d, t, os⟩ := by
  obtain ⟨o, I, _, es, n, rfl, hfl⟩ := hM.inst i
  refine method_fn (s := ⟨h, g, d, t, os⟩) (gd.X.keeps hM.low) I hC.ga hC.gm hf ht ?_ q
  show (lookIn name (PySem.W.dictOf es n)).map _ = _
  rw [lookIn_dict, getL_flds hfl, hs]; rfl
theorem m_lent {a : Addr} {ds : List Da} {Q : Value → Shared → Prop} (hM : Mst H0 B G₀ L m W D h) (hf : ([.ref a], [.tup ds]) ∈ D) (hsz : ds.length ≤ sizeLine) (q : ∀ u, Q (.int ds.length u) ⟨h, g, d, t + 1 + 1, os⟩) :
    wpAny (model prog w) A (call (.builtin "len") [.ref a]) Q E ⟨h, g, d, t, os⟩ := by
  obtain ⟨vs, ht, -, -, hs, _⟩ := hM.titems hf
  refine PyProof.Rows.len_tuple (s := ⟨h, g, d, t, os⟩) ht (by rw [sizeLine_eq] at hsz; omega) ?_
  rw [hs]; exact q _
theorem m_lenf {a : Addr} {ds : List Da} {Q : Value → Shared → Prop} (hM : Mst H0 B G₀ L m W D h) (hf : ([.ref a], [.lst ds]) ∈ D) (hsz : ds.length ≤ sizeLine) (q : ∀ u, Q (.int ds.length u) ⟨h, g, d, t + 1 + 1, os⟩) :
    wpAny (model prog w) A (call (.builtin "len") [.ref a]) Q E ⟨h, g, d, t, os⟩ := by
  obtain ⟨vs, ht, -, -, hs, _⟩ := hM.items hf
  refine Calls.call_len_list (s := ⟨h, g, d, t, os⟩) ht (by rw [sizeLine_eq] at hsz; omega) ?_
  rw [hs]; exact q _
theorem m_itemt {value slice : Expr} {a : Addr} {ds : List Da} {e : Da} {k : Int} {u : Tok} (j : Nat) {Q : Value → Shared → Prop} (hM : Mst H0 B G₀ L m W D h) (hf : ([.ref a], [.tup ds]) ∈ D) (hlo : -(2 ^ 63) ≤ k) (hhi : k < 2 ^ 63) (hj : seqIndex? k ds.length = some j) (hx : ds[j]? = some e)
    (q : ∀ v, Mst H0 B G₀ L m W (([v], [e]) :: D) h → Q v ⟨h, g, d, t, os⟩)
    (hs : subscripted slice false (.ref a) (.int k u) = operate [.ref a, .int k u] (getItem (.ref a) (.int k u)) := by with_unfolding_all rfl) : wpAny (model prog w) A (subscriptTail value slice (.ref a) (.int k u)) Q E ⟨h, g, d, t, os⟩ := by
  obtain ⟨vs, ht, -, -, hsz, hM'⟩ := hM.titems hf
  obtain ⟨v, hv, hM'⟩ := hM'.nth (.head _) hx
  refine item_tupleT (s := ⟨h, g, d, t, os⟩) (l := vs.toList) (by rw [Array.toArray_toList]; exact ht) hlo hhi (by rw [Array.length_toList, hsz]; exact hj) hv (q v ?_) hs
  exact hM'.facts fun G g f hf => by
    rcases List.mem_cons.mp hf with rfl | hf
    · exact g _ (.head _)
    · exact g f (.tail _ (.tail _ hf))
theorem m_itemf {value slice : Expr} {a : Addr} {ds : List Da} {e : Da} {k : Int} {u : Tok} (j : Nat) {Q : Value → Shared → Prop} (hM : Mst H0 B G₀ L m W D h) (hf : ([.ref a], [.lst ds]) ∈ D) (hlo : -(2 ^ 63) ≤ k) (hhi : k < 2 ^ 63) (hj : seqIndex? k ds.length = some j) (hx : ds[j]? = some e)
    (q : ∀ v, Mst H0 B G₀ L m W (([v], [e]) :: D) h → Q v ⟨h, g, d, t, os⟩)
    (hs : subscripted slice false (.ref a) (.int k u) = operate [.ref a, .int k u] (getItem (.ref a) (.int k u)) := by with_unfolding_all rfl) : wpAny (model prog w) A (subscriptTail value slice (.ref a) (.int k u)) Q E ⟨h, g, d, t, os⟩ := by
  obtain ⟨vs, ht, -, -, hsz, hM'⟩ := hM.items hf
  obtain ⟨v, hv, hM'⟩ := hM'.nth (.head _) hx
  have hq := q v (hM'.facts fun G g f hf => by
    rcases List.mem_cons.mp hf with rfl | hf
    · exact g _ (.head _)
    · exact g f (.tail _ (.tail _ hf)))
  rw [Array.getElem?_toList] at hv
  refine tail_any (s := ⟨h, g, d, t, os⟩) ht.typeIs slot_list_getitem.lookup ?_ hs
  unfold seqIndex? at hj
  dsimp only at hj
  by_cases hk : k < 0
  · rw [if_pos hk] at hj
    split at hj
    · rename_i hc
      cases hj
      rw [Bool.and_eq_true, decide_eq_true_eq, decide_eq_true_eq] at hc
      exact wpAny_getItem_list_neg (s := ⟨h, g, d, t, os⟩) ht hk (by rw [hsz]; omega) hlo (by rw [hsz]; exact hv) hq
    · cases hj
  · rw [if_neg hk] at hj
    split at hj
    · cases hj
      exact wpAny_getItem_list (s := ⟨h, g, d, t, os⟩) ht (by omega) hhi hv hq
    · cases hj
theorem m_neg {a : Int} {u : Tok} {Q : Value → Shared → Prop} (q : Q (.int (-a) t) ⟨h, g, d, t + 1, os⟩) : wpAny (model prog w) A (unaryOp .USub (.int a u)) Q E ⟨h, g, d, t, os⟩ := neg_int (s := ⟨h, g, d, t, os⟩) q
/-- a test one of whose ways may leave the def -/
theorem m_ifR {test : Expr} {body orelse : List Stmt} {pos : Pos} {Q : Flow → Shared → Prop} (_hM : Mst H0 B G₀ L m W D h) (P : List (Str × Value) → Own → Facts → Prop)
    (q : ∀ T : Flow → Shared → Prop, (∀ l' W' D' h' t', Mst H0 B G₀ L (lk l') W' D' h' → P l' W' D' → T .next ⟨h', g, d, t', os⟩) → (∀ v s', Q (.ret v) s' → T (.ret v) s') →
      wpAny (model prog w) A (isTrue test env (eval test env)) (fun b s₂ => Both b (wpAny (model prog w) A (execs body env) T E s₂) (wpAny (model prog w) A (execs orelse env) T E s₂)) E ⟨h, g, d, t, os⟩)
    (cont : ∀ l' W' D' h' t', P l' W' D' → Mst H0 B G₀ L (lk l') W' D' h' → Q .next ⟨h', g, d, t', os⟩) : wpAny (model prog w) A (exec (.If test body orelse pos) env) Q E ⟨h, g, d, t, os⟩ := by
  refine m_if (wpAny_mono (q (fun f s' => match f with | .next => ∃ l' W' D' h' t', s' = ⟨h', g, d, t', os⟩ ∧ Mst H0 B G₀ L (lk l') W' D' h' ∧ P l' W' D' | .ret v => Q (.ret v) s' | _ => False) (fun l' W' D' h' t' hM p => ⟨l', W', D', h', t', rfl, hM, p⟩) (fun _ _ z => z)) (fun b s₂ z => ?_) fun _ _ y => y)
  have k : ∀ f s', (match f with | .next => ∃ l' W' D' h' t', s' = ⟨h', g, d, t', os⟩ ∧ Mst H0 B G₀ L (lk l') W' D' h' ∧ P l' W' D' | .ret v => Q (.ret v) s' | _ => False) → Q f s' := by
    intro f s' y
    cases f with
    | next => obtain ⟨l', W', D', h', t', rfl, hM, p⟩ := y; exact cont _ _ _ _ _ p hM
    | ret v => exact y
    | _ => exact y.elim
  cases b with
  | true => exact wpAny_mono (Both.isT z) (fun f s' y => k f s' y) fun _ _ y => y
  | false => exact Both.ff (wpAny_mono (Both.isF z) (fun f s' y => k f s' y) fun _ _ y => y)
theorem m_muli {a b : Int} {x y : Tok} {Q : Value → Shared → Prop} (ha : a.natAbs < 2 ^ 20) (q : Q (.int (a * b) t) ⟨h, g, d, t + 1, os⟩) : wpAny (model prog w) A (binaryOp .Mult (.int a x) (.int b y)) Q E ⟨h, g, d, t, os⟩ :=
  PyProof.Rows.mul_int (s := ⟨h, g, d, t, os⟩) q (IntMulOk.of_left (intBits_le_64 (by omega) (by omega)))
end
end Mine
end
section
open PySem PySem.W PySem.Calls PySem.Spec PyProof.Rows
open PySem.Builtin PySem.Builtin.Re
set_option Elab.async false
set_option maxRecDepth 100000
namespace Mine

/-- the machine of a search, some turns on -/
def failsIn : Nat → Sre.M → Bool
  | 0, _ => false
  | n + 1, m => match (m.runFor reTurnSteps).outcome with | some .failed => true | some _ => false | none => failsIn n (m.runFor reTurnSteps)
theorem reDrive_fails {M : Model} {A : Around} {E : Value → Shared → Prop} {s : Shared} {Q : Sre.M → Shared → Prop} : ∀ (n k : Nat) (m : Sre.M), failsIn n m = true → (∀ m', m'.outcome = some .failed → Q m' s) → wpAny M A (reDrive (n + k) m) Q E s
  | 0, _, _, h, _ => by cases h
  | n + 1, k, m, h, q => by
    unfold failsIn at h
    rw [Nat.succ_add, reDrive]
    cases e : (m.runFor reTurnSteps).outcome with
    | some o =>
      rw [e] at h
      cases o with
      | failed => rw [if_pos (by rfl)]; exact wpAny_pure (q _ e)
      | matched => cases h
      | stuck _ => cases h
    | none =>
      rw [e] at h
      rw [if_neg (by decide)]
      exact wpAny_bind (wpAny_rule (reDrive_fails n k _ h q))
theorem rules_only {M : Model} {A : Around} {E : Value → Shared → Prop} {s : Shared} {Q : PUnit → Shared → Prop} {p : Nat → Bool} {f : Nat → String} (q : Q ⟨⟩ s) : ∀ l : List Nat, wpAny M A (forIn l PUnit.unit fun i _ => do if p i = true then do rule (f i); pure (ForInStep.yield PUnit.unit) else pure (ForInStep.yield PUnit.unit)) Q E s
  | [] => wpAny_pure q
  | i :: l => by
    rw [List.forIn_cons]
    refine wpAny_bind ?_
    split
    · exact wpAny_bind (wpAny_rule (wpAny_pure (rules_only q l)))
    · exact wpAny_pure (rules_only q l)
theorem reRun_fails {M : Model} {A : Around} {E : Value → Shared → Prop} {s : Shared} {Q : Option Sre.M → Shared → Prop} {n : Nat} {m : Sre.M} (h : failsIn n m = true) (hn : n ≤ 2 ^ 64) (q : Q none s) : wpAny M A (reRunToEnd m) Q E s := by
  unfold reRunToEnd
  obtain ⟨k, hk⟩ := Nat.exists_eq_add_of_le hn
  rw [hk]
  refine wpAny_bind (reDrive_fails n k m h fun m' hm => ?_)
  refine wpAny_bind (rules_only ?_ _)
  rw [hm]
  exact wpAny_pure q

theorem slot_search : Slot "re.Pattern" "search" "re.Pattern.search" :=
  .of (owner := "re.Pattern") (n := "search") (by rw [typeLookup_type, builtinLookup_eq_fast]; kernel_rfl) (by decide +kernel) (by decide +kernel) (by decide +kernel)
    (by first | exact .inl (by decide +kernel) | exact .inr (by decide +kernel)) (by rw [isSubtype_type]; kernel_rfl)
theorem entry_search : entryFor table "re.Pattern.search" = some Builtin.«re.Pattern.search» := entryFor_of_tree (by kernel_rfl)
theorem args_search (a b : Value) : argsOk "re.Pattern.search" ⟨[a, b], []⟩ := by unfold argsOk; kernel_rfl
theorem plainAttrs_pattern : PlainAttrs "re.Pattern" :=
  ⟨⟨"object.__getattribute__", by rw [typeLookup_type, builtinLookup_eq_fast]; kernel_rfl, by decide +kernel⟩, by rw [typeLookup_type, builtinLookup_eq_fast]; kernel_rfl⟩
theorem type_search : typeOf (.builtin "re.Pattern.search") = pure (.type "method_descriptor") := by show builtinType _ = _; rw [builtinType_eq_fast]; kernel_rfl
theorem named_search (a : Value) : reNamed "re.Pattern.search" "search" ["string", "pos", "endpos"] 1 [a] [] = pure [some a, none, none] := by kernel_rfl
/-- a text in which the search finds nothing -/
def findsNone (code : Array Nat) (x : Str) : Bool := failsIn 1000 (Sre.forSearch code x.cps 0 (min 0 x.cps.size) (min (2 ^ 63 - 1) x.cps.size) false)
theorem search_none {prog : Program} {w : World} {A : Around} {E : Value → Shared → Prop} {s : Shared} {p c : Addr} {v1 v2 v3 v4 : Value} {t6 tg : Tok} {o oc : Obj} {items : Array Value} {n : Nat} {x : Str} {tk : Tok} {Q : Value → Shared → Prop}
    (ho : s.heap.get? p = some o) (hcl : o.cls = .type "re.Pattern") (hd : o.data = .fields #[v1, v2, .int 0 tg, v3, v4, .ref c, .int 0 t6]) (hc : s.heap.get? c = some oc) (hcd : oc.data = .seq items n)
    (hf : findsNone ((items.map reRawOf).map (·.toNat)) x = true) (q : Q .none s) : wpAny (model prog w) A (call (.builtin "re.Pattern.search") [.ref p, .str x tk]) Q E s := by
  refine wpAny_call_entry slot_search ⟨o, ho, hcl⟩ entry_search ?_ (args_search _ _)
  unfold Builtin.«re.Pattern.search» reTarget
  dsimp only
  rw [named_search]
  refine wpAny_bind (wpAny_bind (wpAny_pure (wpAny_bind (wpAny_pure (wpAny_bind (wpAny_pure (wpAny_bind (wpAny_fieldsOf ho hd ?_))))))))
  repeat lk
  rw [hcd]
  refine wpAny_pure (wpAny_pure (wpAny_pure ?_))
  unfold reAnswer
  refine wpAny_bind (reRun_fails (n := 1000) hf (by decide) ?_)
  exact wpAny_pure ⟨_, rfl, q⟩

section
variable {prog : Program} {w : World} {A : Around} {E : Value → Shared → Prop} {K : Frag} {H0 : Heap} {B G₀ : Gr} {L : Addr} {m : Loc} {W W' : Own} {D : Facts} {h : Heap} {g : Array GenState} {d : Drawn} {t : Nat} {os : OsState}
/-- the code of a pattern of the text -/
def codeOf (K : Frag) (c : Addr) : Array Nat := match K.lookup c with
  | some ⟨_, _, .seq items _, _⟩ => (items.map reRawOf).map (·.toNat)
  | _ => #[]
theorem m_gm_search {p : Addr} {o : Obj} {pl : Sem Bool} {Q : Value × List Value → Shared → Prop} (gd : Gd K H0) (hM : Mst H0 B G₀ L m W D h) (ho : K.lookup p = some o) (hc : o.cls = .type "re.Pattern") (hd : o.dict = none) (q : Q (.builtin "re.Pattern.search", [.ref p]) ⟨h, g, d, t, os⟩) :
    wpAny (model prog w) A (getMethod (.ref p) "search" pl) Q E ⟨h, g, d, t, os⟩ := by
  have X := gd.X.keeps hM.low
  exact getMethod_builtin (s := ⟨h, g, d, t, os⟩) ⟨o, X _ _ ho, hc⟩ plainAttrs_pattern slot_search type_search (fun a e => by cases e; exact ⟨o, X _ _ ho, hd⟩) q
theorem m_search {p c : Addr} {o oc : Obj} {v1 v2 v3 v4 : Value} {t6 tg : Tok} {items : Array Value} {n : Nat} {x : Str} {tk : Tok} {Q : Value → Shared → Prop} (gd : Gd K H0) (hM : Mst H0 B G₀ L m W D h) (ho : K.lookup p = some o) (hcl : o.cls = .type "re.Pattern")
    (hd : o.data = .fields #[v1, v2, .int 0 tg, v3, v4, .ref c, .int 0 t6]) (hc : K.lookup c = some oc) (hcd : oc.data = .seq items n) (hf : findsNone ((items.map reRawOf).map (·.toNat)) x = true) (q : Q .none ⟨h, g, d, t, os⟩) :
    wpAny (model prog w) A (call (.builtin "re.Pattern.search") [.ref p, .str x tk]) Q E ⟨h, g, d, t, os⟩ := by
  have X := gd.X.keeps hM.low
  exact search_none (X _ _ ho) hcl hd (X _ _ hc) hcd hf q
end
def nameCode : Array Nat := #[14, 10, 4, 1, 1, 22, 0, 31, 16, 127, 0, 13, 7, 22, 0, 31, 16, 127, 0, 1]
def valueCode : Array Nat := #[14, 14, 4, 1, 1, 9, 4294966783, 0, 0, 2147483648, 0, 0, 0, 0, 0, 13, 11, 9, 4294966783, 0, 0, 2147483648, 0, 0, 0, 0, 0, 1]
theorem nameCode_is (P : Params) : ∃ v1 v2 v3 v4 t6 tg items n oc, (ko121 P).data = .fields #[v1, v2, .int 0 tg, v3, v4, .ref 120, .int 0 t6] ∧ (KF P).lookup 120 = some oc ∧ oc.data = .seq items n ∧ (items.map reRawOf).map (·.toNat) = nameCode :=
  ⟨_, _, _, _, _, _, _, _, _, by rfl, by rfl, by rfl, by decide +kernel⟩
theorem valueCode_is (P : Params) : ∃ v1 v2 v3 v4 t6 tg items n oc, (ko126 P).data = .fields #[v1, v2, .int 0 tg, v3, v4, .ref 125, .int 0 t6] ∧ (KF P).lookup 125 = some oc ∧ oc.data = .seq items n ∧ (items.map reRawOf).map (·.toNat) = valueCode :=
  ⟨_, _, _, _, _, _, _, _, _, by rfl, by rfl, by rfl, by decide +kernel⟩

/-- the seventy-two leads -/
def leadAt (t : Nat) : Str := ⟨(List.replicate (t % 3) 32 ++ List.replicate (t / 3 % 2) 9 ++ List.replicate (t / 6 % 3) 32 ++ List.replicate (t / 18 % 2) 9 ++ List.replicate (t / 36 % 2) 32).toArray⟩
def nameAt (k : Nat) : Str := ⟨#[match k % 4 with | 0 => 97 | 1 => 65 | 2 => 98 | _ => 66]⟩
theorem leads_fine : (List.range 72).all (fun t => findsNone valueCode (leadAt t)) = true := by decide +kernel
theorem names_fine : ["a", "A", "b", "B", "c"].all (fun (x : String) => findsNone nameCode (Str.ofString x)) = true := by decide +kernel
end Mine
end
section
open PySem PySem.W PySem.Calls PySem.Spec PyProof.Rows
set_option Elab.async false
set_option maxRecDepth 100000
namespace Mine
section
variable {prog : Program} {w : World} {A : Around} {E : Value → Shared → Prop} {K : Frag} {H0 : Heap} {B G₀ : Gr} {L : Addr} {m : Loc} {l : List (Str × Value)} {W W' : Own} {D : Facts} {h : Heap} {g : Array GenState} {d : Drawn} {t : Nat} {os : OsState} {env : Env} {ns : List (Str × NameKind)} {cl : List (Str × Addr)} {v u : Value}
/-- a method of an instance is called, one argument by name -/
theorem m_cdkw {f : Addr} {self : Value} {e : Expr} {n : Str} {b : Bool} {k : Nat} {p kp pos : Pos} {Q : Value → Shared → Prop} (gd : Gd K H0) (hk : keepIn K (.ref f) = true)
    (q : wpAny (model prog w) A (eval e env) (fun v s₁ => K.In s₁.heap ∧ wpAny (model prog w) A (call (.ref f) [self, v] [(n, .bool b)]) Q E s₁) E ⟨h, g, d, t, os⟩)
    (he : starEach [e] env = (false, eval e env) :: starEach [] env := by rfl) :
    wpAny (model prog w) A (callWith pos (.ref f) [self] (backTo pos (starEach [e] env)) (backToKw pos (keywordEach [⟨some n, .Constant (.bool b) k p, kp⟩] env))) Q E ⟨h, g, d, t, os⟩ := by
  have h1 : ((backTo pos (starEach [e] env)).any (·.1) || (backToKw pos (keywordEach [⟨some n, .Constant (.bool b) k p, kp⟩] env)).any (·.1.isNone)) = false := by rw [he]; rfl
  refine callWith_KW gd.X hk (by rfl) (m_args (wpAny_mono q (fun v s₁ z => ?_) fun _ _ x => x) he) h1 he
  exact args_nil (kwAll_cons (wpAny_Constant_bool (kwAll_nil z)))
theorem m_methkw {M : Model} {o : Expr} {name : Str} {apos pos : Pos} {args : List Expr} {kws : List Keyword} {pl : Sem Bool} {Q : Value → Shared → Prop} {s : Shared}
    (q : wpAny M A (eval o env) (fun ov s₁ => wpAny M A (getMethod ov name pl) (fun fx s₂ => wpAny M A (callWith pos fx.1 fx.2 (backTo pos (starEach args env)) (backToKw pos (keywordEach kws env))) Q E s₂) E s₁) E s)
    (he : eval (.Call (.Attribute o name apos) args kws pos) env = (do
      let ov ← eval o env
      standAt apos.atName
      let (f, first) ← holding [ov] (getMethod ov name pl)
      callWith pos f first (backTo pos (starEach args env)) (backToKw pos (keywordEach kws env))) := by rfl) : wpAny M A (eval (.Call (.Attribute o name apos) args kws pos) env) Q E s := methodCall_KW q he
theorem m_types {x : Str} {tk : Tok} {Q : Value → Shared → Prop} (q : Q (.type "str") ⟨h, g, d, t, os⟩) : wpAny (model prog w) A (call (.type "type") [.str x tk]) Q E ⟨h, g, d, t, os⟩ :=
  call_type_of (s := ⟨h, g, d, t, os⟩) (typeIs_str _ x tk) (by decide +kernel) q
theorem m_typel {a : Addr} (hl : h.IsList a vs) {Q : Value → Shared → Prop} (q : Q (.type "list") ⟨h, g, d, t, os⟩) : wpAny (model prog w) A (call (.type "type") [.ref a]) Q E ⟨h, g, d, t, os⟩ :=
  call_type_of (s := ⟨h, g, d, t, os⟩) hl.typeIs (by decide +kernel) q
theorem m_isn {Q : Value → Shared → Prop} (hp : plainIs v u = true) (q : Q (.bool (!(v == u))) ⟨h, g, d, t, os⟩) : wpAny (model prog w) A (compareOp .IsNot v u) Q E ⟨h, g, d, t, os⟩ := wpAny_isNot_plain hp q
theorem m_tnone {M : Model} {Q : Bool → Shared → Prop} {s : Shared} (q : Q false s) : wpAny M A (truthy .none) Q E s := PyProof.Rows.truthy_none q
theorem m_is {Q : Value → Shared → Prop} (hp : plainIs v u = true) (q : Q (.bool (v == u)) ⟨h, g, d, t, os⟩) : wpAny (model prog w) A (compareOp .Is v u) Q E ⟨h, g, d, t, os⟩ := wpAny_is_plain hp q
end
end Mine
end
section
open PySem PySem.W PySem.Calls PySem.Spec PyProof.Rows
set_option Elab.async false
set_option maxRecDepth 100000
namespace Mine
section
variable {prog : Program} {w : World} {A : Around} {E : Value → Shared → Prop} {K : Frag} {H0 : Heap} {B G₀ : Gr} {L : Addr} {m : Loc} {l : List (Str × Value)} {W W' W₁ W₂ : Own} {D : Facts} {h : Heap} {g : Array GenState} {d : Drawn} {t : Nat} {os : OsState} {env : Env} {ns : List (Str × NameKind)} {cl : List (Str × Addr)} {v u : Value}
theorem n_list {a : Addr} {vs : Array Value} {x : Str} {px : Pos} {body : List Stmt} {Q : Flow → Shared → Prop} {l₀ : List (Str × Value)} {D₀ : Facts} (hA : A.handled = none) (hE : EnvIs env L ns cl) (hl : ns.lookup x = some .local)
    (hM : Mst H0 B G₀ L (lk l₀) (W₁ ++ W₂) D₀ h) (hL : h.IsList a vs) (haL : a ≠ L) (haW : ∀ p ∈ W₂, p.1 ≠ a)
    (J : Nat → List (Str × Value) → Own → Facts → Prop) (j0 : J 0 l₀ W₂ D₀)
    (turn : ∀ i v l₁ W' D' B' G' h' t' E' T, vs.toList[i]? = some v → J i l₁ W' D' → Mst H0 B' G' L (lk ((x, v) :: l₁)) W' D' h' →
      (∀ m₂ W₃ D₁ h₂, Mst H0 B' G' L m₂ W₃ D₁ h₂ → Mst H0 B G₀ L m₂ (W₁ ++ W₃) D₁ h₂) → TurnTo H0 B' G' L g d os Q (J (i + 1)) T →
      wpAny (model prog w) A (execs body env) T E' ⟨h', g, d, t', os⟩)
    (done : ∀ l₁ W' D' h' t', J vs.size l₁ W' D' → Mst H0 B G₀ L (lk l₁) (W₁ ++ W') D' h' → Q .next ⟨h', g, d, t', os⟩) :
    wpAny (model prog w) A (pyIter (.ref a)) (fun it s₂ => codeAny (model prog w) A (.forLoop (.Name x px) it body [] env) (fun r s' => match r with | .ok f => Q f s' | .error e => cameBackBy (model prog w) A env E e s') s₂) E ⟨h, g, d, t, os⟩ :=
  m_iter_list hA hM hL haL haW go_name J j0 (fun i v l₁ W' D' B' G' h' t' E' hv hj hM back => m_asn hE hM hl fun h₂ t₂ hM₂ => turn i v l₁ W' D' B' G' h₂ t₂ E' _ hv hj hM₂ back .of) done
theorem n_list2 {a : Addr} {vs : Array Value} {ds : List Da} {x y : Str} {px py pt : Pos} {k : Nat} {body : List Stmt} {Q : Flow → Shared → Prop} {l₀ : List (Str × Value)} {D₀ : Facts} (hA : A.handled = none) (hE : EnvIs env L ns cl) (hl : ns.lookup x = some .local) (hl' : ns.lookup y = some .local)
    (hM : Mst H0 B G₀ L (lk l₀) (W₁ ++ W₂) D₀ h) (hL : h.IsList a vs) (haL : a ≠ L) (haW : ∀ p ∈ W₂, p.1 ≠ a) (hds : ∀ (i : Nat) (d : Da), ds[i]? = some d → ∃ d₁ d₂, d = Da.tup [d₁, d₂])
    (J : Nat → List (Str × Value) → Own → Facts → Prop) (hJ : ∀ i l W D, J i l W D → (vs.toList, ds) ∈ D) (j0 : J 0 l₀ W₂ D₀)
    (turn : ∀ i d₁ d₂ v₁ v₂ l₁ W' D' B' G' h' t' E' T, ds[i]? = some (.tup [d₁, d₂]) → J i l₁ W' D' → Mst H0 B' G' L (lk ((y, v₂) :: (x, v₁) :: l₁)) W' (([v₁], [d₁]) :: ([v₂], [d₂]) :: D') h' →
      (∀ m₂ W₃ D₁ h₂, Mst H0 B' G' L m₂ W₃ D₁ h₂ → Mst H0 B G₀ L m₂ (W₁ ++ W₃) D₁ h₂) → TurnTo H0 B' G' L g d os Q (J (i + 1)) T →
      wpAny (model prog w) A (execs body env) T E' ⟨h', g, d, t', os⟩)
    (done : ∀ l₁ W' D' h' t', J vs.size l₁ W' D' → Mst H0 B G₀ L (lk l₁) (W₁ ++ W') D' h' → Q .next ⟨h', g, d, t', os⟩) :
    wpAny (model prog w) A (pyIter (.ref a)) (fun it s₂ => codeAny (model prog w) A (.forLoop (.Tuple [.Name x px, .Name y py] k pt) it body [] env) (fun r s' => match r with | .ok f => Q f s' | .error e => cameBackBy (model prog w) A env E e s') s₂) E ⟨h, g, d, t, os⟩ := by
  refine m_iter_list hA hM hL haL haW go_two J j0 (fun i v l₁ W' D' B' G' h' t' E' hv hj hM back => ?_) done
  have hlen := hM.has (hJ _ _ _ _ hj)
  have hi : i < ds.length := by rw [← hlen]; exact (List.getElem?_eq_some_iff.mp hv).1
  have hd : ds[i]? = some ds[i] := List.getElem?_eq_getElem hi
  obtain ⟨d₁, d₂, e⟩ := hds i _ hd
  rw [e] at hd
  obtain ⟨v', hv', hM⟩ := hM.nth (hJ _ _ _ _ hj) hd
  rw [hv] at hv'; cases hv'
  obtain ⟨T, rfl⟩ := hM.isTup (.head _)
  refine m_un2 hA hM (.head _) fun v₁ v₂ h t hM => ?_
  refine m_asn hE hM hl fun h t hM => ?_
  refine m_asn hE hM hl' fun h t hM => ?_
  exact turn i d₁ d₂ v₁ v₂ l₁ W' D' B' G' h t E' _ hd hj (hM.sub fun f hf => by
    rcases List.mem_cons.mp hf with rfl | hf
    · exact .head _
    rcases List.mem_cons.mp hf with rfl | hf
    · exact .tail _ (.head _)
    · exact .tail _ (.tail _ (.tail _ hf))) back .of
theorem Mst.perm (hM : Mst H0 B G₀ L m W D h) (p : W.Perm W') : Mst H0 B G₀ L m W' D h := hM.less (fun _ hp => p.mem_iff.mpr hp) ((p.map _).nodup hM.nd)
theorem Mst.swap2 {p q : Addr × Wo} (hM : Mst H0 B G₀ L m (p :: q :: W) D h) : Mst H0 B G₀ L m (q :: p :: W) D h := hM.perm (.swap _ _ _)
theorem Mst.last2 {p q : Addr × Wo} (hM : Mst H0 B G₀ L m (p :: q :: W) D h) : Mst H0 B G₀ L m (W ++ [p, q]) D h := by
  have h1 : Mst H0 B G₀ L m (q :: (W ++ [p])) D h := hM.last
  have h2 := h1.last
  rw [List.append_assoc] at h2
  exact h2
theorem Mst.first2 {p q : Addr × Wo} (hM : Mst H0 B G₀ L m (W ++ [p, q]) D h) : Mst H0 B G₀ L m (p :: q :: W) D h := by
  have h0 : Mst H0 B G₀ L m ((W ++ [p]) ++ [q]) D h := by rw [List.append_assoc]; exact hM
  have h1 : Mst H0 B G₀ L m ((q :: W) ++ [p]) D h := h0.first
  exact h1.first
theorem m_debug {M : Model} {x : Str} {pos : Pos} {whole : Sem Value} {Q : Bool → Shared → Prop} {s : Shared} (hx : (x == ("__debug__" : Str)) = true) (q : Q true s) : wpAny M A (isTrue (.Name x pos) env (eval (.Name x pos) env)) Q E s := by
  have e : x = ("__debug__" : Str) := eq_of_beq hx
  subst e
  refine isTrue_plain ?_
  show wpAny M A (do standAt pos; if (("__debug__" : Str) == ("__debug__" : Str)) = true then debugConstant else loadName env "__debug__") _ _ _
  rw [beq_self_eq_true, if_pos rfl]
  exact wpAny_bind (wpAny_standAt (wpAny_bind (wpAny_rule (wpAny_pure (wpAny_truthy_bool q)))))
end
end Mine
end
section
open PySem PySem.W PySem.Calls PySem.Spec PyProof.Rows
set_option Elab.async false
set_option maxRecDepth 100000
namespace Mine
theorem Mst.app0 {H0 : Heap} {B G₀ : Gr} {L : Addr} {m : Loc} {W : Own} {D : Facts} {h : Heap} (hM : Mst H0 B G₀ L m W D h) : Mst H0 B G₀ L m (W ++ []) D h := by rw [List.append_nil]; exact hM
theorem Mst.un0 {H0 : Heap} {B G₀ : Gr} {L : Addr} {m : Loc} {W : Own} {D : Facts} {h : Heap} (hM : Mst H0 B G₀ L m (W ++ []) D h) : Mst H0 B G₀ L m W D h := by rw [List.append_nil] at hM; exact hM
section
variable {prog : Program} {w : World} {A : Around} {E : Value → Shared → Prop} {h : Heap} {g : Array GenState} {d : Drawn} {t : Nat} {os : OsState} {x : Str} {u : Tok}
theorem m_gm_lower {pl : Sem Bool} {Q : Value × List Value → Shared → Prop} (q : Q (.builtin "str.lower", [.str x u]) ⟨h, g, d, t, os⟩) : wpAny (model prog w) A (getMethod (.str x u) "lower" pl) Q E ⟨h, g, d, t, os⟩ := GM.lower q
theorem m_lower {Q : Value → Shared → Prop} (hx : x.length ≤ 1000) (q : Q (.str (Txt.lower x) t) ⟨h, g, d, t + 1, os⟩) : wpAny (model prog w) A (call (.builtin "str.lower") [.str x u]) Q E ⟨h, g, d, t, os⟩ :=
  PyProof.Rows.SCL.lower (s := ⟨h, g, d, t, os⟩) (by omega) fun _ => q
end
end Mine
end
section
open PySem PySem.W PySem.Calls PySem.Spec PyProof.Rows
set_option Elab.async false
set_option maxRecDepth 100000
namespace Mine
abbrev Row := Str × Str
def rowDa (r : Row) : Da := .tup [.str r.1, .str r.2]
theorem DaIn.strInv {G : Gr} {v : Value} {x : Str} (h : DaIn G v (.str x)) : ∃ t, v = .str x t := by
  cases h with
  | str _ t => exact ⟨t, rfl⟩
theorem rowDa_det {G : Gr} {v : Value} {r r' : Row} (h : DaIn G v (rowDa r)) (h' : DaIn G v (rowDa r')) : r = r' := by
  unfold rowDa at h h'
  cases h with
  | tup e o x => cases h' with
    | tup e' o' x' =>
      rw [e] at e'; cases e'
      obtain ⟨_, n, hn⟩ := o
      obtain ⟨_, n', hn'⟩ := o'
      rw [hn] at hn'; cases hn'
      generalize Array.toList _ = l at x x'
      have hl := x.length
      match l, hl with
      | [v₁, v₂], _ =>
        obtain ⟨t₁, e₁⟩ := DaIn.strInv x.head
        obtain ⟨t₂, e₂⟩ := DaIn.strInv x.tail.head
        obtain ⟨t₃, e₃⟩ := DaIn.strInv x'.head
        obtain ⟨t₄, e₄⟩ := DaIn.strInv x'.tail.head
        rw [e₁] at e₃
        rw [e₂] at e₄
        injection e₃ with e₃
        injection e₄ with e₄
        exact Prod.ext e₃ e₄
/-- what a comprehension does with what it goes over -/
def CompGo (prog : Program) (w : World) (A : Around) (env : Env) (scope : Scope) (cl : List (Str × Addr)) (x : Str) (ifs : List Expr) (elt : Expr) (p : Value → Bool) (F : Value → Value → Prop) (Q : Value → Shared → Prop) (E : Value → Shared → Prop) (xv : Value) (s₁ : Shared) : Prop :=
  wpAny (model prog w) A (pyIter xv) (fun it s₂ => ∃ I fp wr n P St, it = .ref I ∧ Walks prog w A I fp wr n P St ∧ n ≤ sizeLine ∧ St 0 s₂.heap ∧ (∀ b ∈ fp, b < s₂.heap.objs.size) ∧
      QuietOnC prog w A env scope cl x ifs elt wr P p F s₂ ∧
      (∀ D h' tk ys (vs : List Value), s₂.heap.get? D = none → h'.IsList D ys → h'.PlainList D ys → vs.length = n → (∀ j v, vs[j]? = some v → P j v) → Paired F (vs.filter p) ys.toList →
        (∀ b o, b ∉ wr → s₂.heap.get? b = some o → h'.get? b = some o) → Q (.ref D) { s₂ with heap := h', toks := tk })) E s₁
theorem paired_of {α : Type} {H : Gr} {test : α → Bool} {out : α → Da} {p : Value → Bool} {F : Value → Value → Prop} : ∀ (vs : List Value) (rs : List α), vs.length = rs.length →
    (∀ (i : Nat) (v : Value) (r : α), vs[i]? = some v → rs[i]? = some r → p v = test r ∧ ∀ y, F v y → test r = true → DaIn H y (out r)) → ∀ ys : List Value, Paired F (vs.filter p) ys → DaAll H ys ((rs.filter test).map out)
  | [], [], _, _, ys, h => by cases h; exact .nil
  | [], _ :: _, hl, _, _, _ => by cases hl
  | _ :: _, [], hl, _, _, _ => by cases hl
  | v :: vs, r :: rs, hl, hx, ys, h => by
    obtain ⟨e, hF⟩ := hx 0 v r rfl rfl
    have rest := paired_of (H := H) (test := test) (out := out) (p := p) (F := F) vs rs (Nat.succ.inj hl) (fun i v r h1 h2 => hx (i + 1) v r h1 h2)
    rw [List.filter_cons] at h
    rw [List.filter_cons, ← e]
    cases hpv : p v with
    | true =>
      rw [hpv, if_pos rfl] at h
      rw [if_pos rfl]
      cases h with
      | cons a b => exact .cons (hF _ a (e ▸ hpv)) (rest _ b)
    | false =>
      rw [hpv, if_neg (by decide)] at h
      rw [if_neg (by decide)]
      exact rest _ h
section
variable {prog : Program} {w : World} {A : Around} {E : Value → Shared → Prop} {K : Frag} {H0 : Heap} {B G₀ : Gr} {L : Addr} {m : Loc} {l : List (Str × Value)} {W W' : Own} {D : Facts} {h : Heap} {g : Array GenState} {d : Drawn} {t : Nat} {os : OsState} {env : Env} {ns : List (Str × NameKind)} {cl : List (Str × Addr)} {v u : Value}
/-- a test and what is made, told of values -/
structure PF {α : Type} (enc : α → Da) (vs : Array Value) (rs : List α) (test : α → Bool) (out : α → Da) (p : Value → Bool) (F : Value → Value → Prop) : Prop where
  det : ∀ (G : Gr) v r r', DaIn G v (enc r) → DaIn G v (enc r') → r = r'
  p : ∀ (i : Nat) v r, vs[i]? = some v → rs[i]? = some r → p v = test r
  F : ∀ v y, F v y ↔ ∃ (i : Nat) (r : α), vs[i]? = some v ∧ rs[i]? = some r ∧ ∀ G : Gr, DaIn G v (enc r) → DaIn G y (out r)
theorem DaAll.rowAt {α : Type} {enc : α → Da} {G : Gr} {vs : Array Value} {rs : List α} (h : DaAll G vs.toList (rs.map enc)) {i : Nat} {v : Value} {r : α} (hv : vs[i]? = some v) (hr : rs[i]? = some r) : DaIn G v (enc r) := by
  rw [← Array.getElem?_toList] at hv
  obtain ⟨dd, hd, hi⟩ := h.at hv
  rw [List.getElem?_map, hr] at hd
  cases hd; exact hi
theorem m_compG {α : Type} {enc : α → Da} (det : ∀ (G : Gr) v r r', DaIn G v (enc r) → DaIn G v (enc r') → r = r') {elt iter : Expr} {x : Str} {px : Pos} {ifs : List Expr} {scope : Scope} {clc : List (Str × Addr)} {pos : Pos} {vs : Array Value} {rs : List α} {Q : Value → Shared → Prop} (test : α → Bool) (out : α → Da) (hM : Mst H0 B G₀ L m W D h)
    (hf : (vs.toList, rs.map enc) ∈ D) (hclos : closureFor scope env = pure clc)
    (q : ∀ p F, PF enc vs rs test out p F → wpAny (model prog w) A (eval iter env) (fun xv s₁ => CompGo prog w A env scope clc x ifs elt p F Q E xv s₁) E ⟨h, g, d, t, os⟩)
    (hcell : ∀ y ∈ scope.names, y.2 ≠ .cell := by decide) (hkind : scope.kind = .function := by rfl) (hnames : ∀ y ∈ scope.names, y.2 = .local → scope.names.lookup y.1 = some .local := by decide) (hx : scope.names.lookup x = some .local := by rfl)
    (hs : ∀ x, foldedSetIterable iter env x = pure x := by intro _; rfl) : wpAny (model prog w) A (eval (.ListComp elt [⟨.Name x px, iter, ifs, 0⟩] scope pos) env) Q E ⟨h, g, d, t, os⟩ := by
  classical
  obtain ⟨G, gh, gf⟩ := hM.told
  have hall : DaAll G vs.toList (rs.map enc) := gf _ hf
  refine wpAny_ListComp_free (fun v => decide (∃ (i : Nat) (r : α), vs[i]? = some v ∧ rs[i]? = some r ∧ test r = true)) (fun v y => ∃ (i : Nat) (r : α), vs[i]? = some v ∧ rs[i]? = some r ∧ ∀ G : Gr, DaIn G v (enc r) → DaIn G y (out r)) hclos hcell hkind hnames hx (q _ _ ⟨det, fun i v r hv hr => ?_, fun v y => Iff.rfl⟩) hs
  rw [Bool.eq_iff_iff, decide_eq_true_eq]
  refine ⟨fun ⟨i', r', hv', hr', ht⟩ => ?_, fun ht => ⟨i, r, hv, hr, ht⟩⟩
  rw [det _ _ _ _ (hall.rowAt hv hr) (hall.rowAt hv' hr')]; exact ht
theorem m_comp {elt iter : Expr} {x : Str} {px : Pos} {ifs : List Expr} {scope : Scope} {clc : List (Str × Addr)} {pos : Pos} {vs : Array Value} {rs : List Row} {Q : Value → Shared → Prop} (test : Row → Bool) (out : Row → Da) (hM : Mst H0 B G₀ L m W D h)
    (hf : (vs.toList, rs.map rowDa) ∈ D) (hclos : closureFor scope env = pure clc)
    (q : ∀ p F, PF rowDa vs rs test out p F → wpAny (model prog w) A (eval iter env) (fun xv s₁ => CompGo prog w A env scope clc x ifs elt p F Q E xv s₁) E ⟨h, g, d, t, os⟩)
    (hcell : ∀ y ∈ scope.names, y.2 ≠ .cell := by decide) (hkind : scope.kind = .function := by rfl) (hnames : ∀ y ∈ scope.names, y.2 = .local → scope.names.lookup y.1 = some .local := by decide) (hx : scope.names.lookup x = some .local := by rfl)
    (hs : ∀ x, foldedSetIterable iter env x = pure x := by intro _; rfl) : wpAny (model prog w) A (eval (.ListComp elt [⟨.Name x px, iter, ifs, 0⟩] scope pos) env) Q E ⟨h, g, d, t, os⟩ :=
  m_compG (fun _ _ _ _ => rowDa_det) test out hM hf hclos q hcell hkind hnames hx hs
theorem m_compgo {α : Type} {enc : α → Da} {elt : Expr} {x : Str} {ifs : List Expr} {scope : Scope} {clc : List (Str × Addr)} {a : Addr} {vs : Array Value} {rs : List α} {test : α → Bool} {out : α → Da} {p : Value → Bool} {F : Value → Value → Prop} {Q : Value → Shared → Prop} (hpf : PF enc vs rs test out p F) (hA : A.handled = none) (hM : Mst H0 B G₀ L m W D h) (hL : h.IsList a vs)
    (hf : (vs.toList, rs.map enc) ∈ D) (hlen : rs.length ≤ 1000)
    (tests : ∀ C r v (h₃ : Heap) g₃ d₃ t os₃ m₃ E', r ∈ rs → DaIn h₃.get? v (enc r) → h₃.Ns C m₃ → m₃ x = some v → (∀ b o, h.get? b = some o → h₃.get? b = some o) →
      wpAny (model prog w) A (forIn ifs true fun c r => if r = true then do let ok ← isTrue c (compEnvC scope clc C env) (eval c (compEnvC scope clc C env)); pure (ForInStep.yield ok) else pure (ForInStep.yield r)) (fun ok s₄ => ok = test r ∧ ∃ t', s₄ = ⟨h₃, g₃, d₃, t', os₃⟩) E' ⟨h₃, g₃, d₃, t, os₃⟩)
    (elts : ∀ C r v (h₃ : Heap) g₃ d₃ t os₃ m₃ E', r ∈ rs → test r = true → DaIn h₃.get? v (enc r) → h₃.Ns C m₃ → m₃ x = some v → (∀ b o, h.get? b = some o → h₃.get? b = some o) →
      wpAny (model prog w) A (eval elt (compEnvC scope clc C env)) (fun y s₄ => (∀ G : Gr, DaIn G v (enc r) → DaIn G y (out r)) ∧ ∃ t', s₄ = ⟨h₃, g₃, d₃, t', os₃⟩) E' ⟨h₃, g₃, d₃, t, os₃⟩)
    (q : ∀ r ys h' t', Mst H0 B G₀ L m ((r, .lst ys) :: W) ((ys.toList, (rs.filter test).map out) :: D) h' → Q (.ref r) ⟨h', g, d, t', os⟩) : CompGo prog w A env scope clc x ifs elt p F Q E (.ref a) ⟨h, g, d, t, os⟩ := by
  obtain ⟨G, gh, gf⟩ := hM.told
  have hall : DaAll h.get? vs.toList (rs.map enc) := (gf _ hf).mono gh
  have hsz : vs.size = rs.length := by simpa using hM.has hf
  have hlt : a < h.objs.size := by obtain ⟨o, ho, _⟩ := hL; exact Heap.lt_size ho
  have row : ∀ (i : Nat) (v : Value), vs[i]? = some v → ∃ r, rs[i]? = some r ∧ r ∈ rs ∧ DaIn h.get? v (enc r) := fun i v hv => by
    have hi : i < rs.length := by rw [← hsz]; exact (Array.getElem?_eq_some_iff.mp hv).1
    have hr := List.getElem?_eq_getElem hi
    exact ⟨_, hr, List.getElem_mem hi, hall.rowAt hv hr⟩
  unfold CompGo
  refine wpAny_pyIter_list hL ?_
  have kp : ∀ (s₃ : Heap), (∀ b o, b ∉ [h.objs.size] → (h.push { cls := .type "list_iterator", data := .fields #[.ref a, .int 0 0] }).get? b = some o → s₃.get? b = some o) → ∀ b o, h.get? b = some o → s₃.get? b = some o := fun s₃ k b o e =>
    k b o (fun hm => absurd (Heap.lt_size e) (by rw [List.mem_singleton.mp hm]; exact Nat.lt_irrefl _)) (Heap.get?_push_of_some _ e)
  refine ⟨h.objs.size, _, _, _, _, _, rfl, Walks.list hA _ a (Nat.ne_of_lt hlt) vs, by rw [sizeLine_eq]; omega, ⟨⟨_, Heap.get?_push_size _ rfl, rfl, rfl⟩, hL.push _⟩, ?_, ⟨?_, ?_⟩, ?_⟩
  · intro b hb
    show b < (h.push _).objs.size
    rw [Heap.size_push]
    rcases List.mem_cons.mp hb with rfl | hb
    · exact Nat.lt_succ_self _
    · rw [List.mem_singleton.mp hb]; exact Nat.lt_succ_of_lt hlt
  · rintro C i v ⟨h₃, g₃, d₃, t₃, os₃⟩ m₃ E' - hP hN hm k -
    obtain ⟨r, hr, hmem, hi⟩ := row i v hP
    have kk := kp h₃ k
    exact wpAny_mono (tests C r v h₃ g₃ d₃ t₃ os₃ m₃ E' hmem (hi.mono kk) hN hm kk) (fun ok s₄ ⟨e, t', es⟩ => ⟨e.trans (hpf.p i v r hP hr).symm, h₃, t', es, fun _ _ e => e⟩) fun _ _ z => z
  · rintro C i v ⟨h₃, g₃, d₃, t₃, os₃⟩ m₃ E' - hP hpv hN hm k -
    obtain ⟨r, hr, hmem, hi⟩ := row i v hP
    have kk := kp h₃ k
    exact wpAny_mono (elts C r v h₃ g₃ d₃ t₃ os₃ m₃ E' hmem ((hpf.p i v r hP hr).symm.trans hpv) (hi.mono kk) hN hm kk) (fun y s₄ ⟨e, t', es⟩ => ⟨(hpf.F v y).mpr ⟨i, r, hP, hr, e⟩, h₃, t', es, fun _ _ e => e⟩) fun _ _ z => z
  · intro D' h' tk ys vs' hnone hl hpl hlen' hP' hpair k
    have kk := kp h' k
    have hn : h.get? D' = none := by
      cases e : h.get? D' with
      | none => rfl
      | some o =>
        replace hnone : (h.push { cls := .type "list_iterator", data := .fields #[.ref a, .int 0 0] }).get? D' = none := hnone
        rw [Heap.get?_push_of_some _ e] at hnone; cases hnone
    have ev : vs' = vs.toList := by
      apply List.ext_getElem?
      intro j
      cases e : vs'[j]? with
      | some v => have := hP' j v e; rw [Array.getElem?_toList, this]
      | none =>
        have : vs'.length ≤ j := List.getElem?_eq_none_iff.mp e
        rw [List.getElem?_eq_none (by rw [Array.length_toList]; omega)]
    subst ev
    have hM2 := hM.grownOwn kk (w := .lst ys) hpl hn
    refine q D' ys h' tk (hM2.with (f := (ys.toList, (rs.filter test).map out)) fun G g => ?_)
    have hG := g _ hf
    exact paired_of vs.toList rs (by rw [Array.length_toList]; exact hsz) (fun i v r hv hr => by
      rw [Array.getElem?_toList] at hv
      refine ⟨hpf.p i v r hv hr, fun y hy ht => ?_⟩
      obtain ⟨i', r', hv', hr', hy⟩ := (hpf.F v y).mp hy
      rw [← hpf.det _ _ _ _ (hG.rowAt hv' hr') (hG.rowAt hv hr)]
      exact hy G (hG.rowAt hv' hr')) ys.toList hpair
end
end Mine
end
section
open PySem PySem.W PySem.Calls PySem.Spec PyProof.Rows
set_option Elab.async false
set_option maxRecDepth 100000
namespace Mine
def relNs (scope : Scope) (ns : List (Str × NameKind)) : List (Str × NameKind) := scope.names.map fun (n, k) => if (k == .free && ns.lookup n == some .cell) then (n, .cell) else (n, k)
theorem compEnvIs {env : Env} {L C : Addr} {ns : List (Str × NameKind)} {cl clc : List (Str × Addr)} {scope : Scope} (hE : EnvIs env L ns cl) (hk : scope.kind = .function) : EnvIs (compEnvC scope clc C env) C (relNs scope ns) clc := by
  refine ⟨rfl, hE.globals, hk, ?_, rfl, hE.builtins⟩
  unfold compEnvC relabel relNs
  have e : ∀ n, env.kindOf n = ns.lookup n := fun n => by unfold Env.kindOf; rw [hE.names]
  have e2 : (env.scope.kind == ScopeKind.function) = true := by rw [hE.kind]; rfl
  simp only [e, e2, Bool.and_true]
section
variable {prog : Program} {w : World} {A : Around} {E : Value → Shared → Prop} {h : Heap} {g : Array GenState} {d : Drawn} {t : Nat} {os : OsState} {env : Env} {C : Addr} {ns : List (Str × NameKind)} {cl : List (Str × Addr)} {v : Value}
theorem r_ld {M : Model} {x : Str} {pos : Pos} {m : Str → Option Value} {Q : Value → Shared → Prop} (hE : EnvIs env C ns cl) (hN : h.Ns C m) (hm : m x = some v) (hl : ns.lookup x = some .local) (q : Q v ⟨h, g, d, t, os⟩) (hd : (x == ("__debug__" : Str)) = false := by exact rfl) :
    wpAny M A (eval (.Name x pos) env) Q E ⟨h, g, d, t, os⟩ :=
  wpAny_Name (wpAny_loadName_local hE.kind (by unfold Env.kindOf; rw [hE.names]; exact hl) (by rw [hE.locals]; exact hN) hm q) hd
theorem r_row0 {value slice : Expr} {r : Row} {u : Tok} {Q : Value → Shared → Prop} (hv : DaIn h.get? v (rowDa r)) (q : ∀ tk, Q (.str r.1 tk) ⟨h, g, d, t, os⟩)
    (hs : ∀ a, subscripted slice false (.ref a) (.int 0 u) = operate [.ref a, .int 0 u] (getItem (.ref a) (.int 0 u)) := by intro _; with_unfolding_all rfl) : wpAny (model prog w) A (subscriptTail value slice v (.int 0 u)) Q E ⟨h, g, d, t, os⟩ := by
  unfold rowDa at hv
  cases hv with
  | @tup a ob vx dx e o x =>
    have hl := x.length
    generalize hv' : vx.toList = l at x hl
    have ev : vx = l.toArray := by rw [← hv', Array.toArray_toList]
    rw [ev] at o
    match l, hl with
    | [v₁, v₂], _ =>
      obtain ⟨t₁, rfl⟩ := DaIn.strInv x.head
      exact item_tupleT (s := ⟨h, g, d, t, os⟩) (j := 0) (l := [.str r.1 t₁, v₂]) ⟨_, e, o⟩ (by decide) (by decide) (by rfl) rfl (q t₁) (hs _)
theorem r_row1 {value slice : Expr} {r : Row} {u : Tok} {Q : Value → Shared → Prop} (hv : DaIn h.get? v (rowDa r)) (q : ∀ tk, Q (.str r.2 tk) ⟨h, g, d, t, os⟩)
    (hs : ∀ a, subscripted slice false (.ref a) (.int 1 u) = operate [.ref a, .int 1 u] (getItem (.ref a) (.int 1 u)) := by intro _; with_unfolding_all rfl) : wpAny (model prog w) A (subscriptTail value slice v (.int 1 u)) Q E ⟨h, g, d, t, os⟩ := by
  unfold rowDa at hv
  cases hv with
  | @tup a ob vx dx e o x =>
    have hl := x.length
    generalize hv' : vx.toList = l at x hl
    have ev : vx = l.toArray := by rw [← hv', Array.toArray_toList]
    rw [ev] at o
    match l, hl with
    | [v₁, v₂], _ =>
      obtain ⟨t₁, rfl⟩ := DaIn.strInv x.tail.head
      exact item_tupleT (s := ⟨h, g, d, t, os⟩) (j := 1) (l := [v₁, .str r.2 t₁]) ⟨_, e, o⟩ (by decide) (by decide) (by rfl) rfl (q t₁) (hs _)
end
end Mine
end
section
open PySem PySem.W PySem.Calls PySem.Spec PyProof.Rows
set_option Elab.async false
set_option maxRecDepth 100000
namespace Mine
section
variable {H0 : Heap} {B G₀ : Gr} {L L' : Addr} {m m₁ : Loc} {W W₁ W₂ W₃ : Own} {D D₁ : Facts} {h : Heap}
/-- the same, with new things of its own -/
theorem Mst.enterC (hM : Mst H0 B G₀ L m (W₁ ++ W₂) D h) {h' : Heap} (hL : h.get? L' = none) (hns : NsK h' L' m₁) (hk : ∀ b o, h.get? b = some o → h'.get? b = some o) (Wc : Own) (hWc : ∀ p ∈ Wc, WoAt h' p.1 p.2 ∧ h.get? p.1 = none ∧ p.1 ≠ L') (hnc : ((Wc ++ W₂).map (·.1)).Nodup) :
    ∃ B' G' : Gr, Mst H0 B' G' L' m₁ (Wc ++ W₂) D h' ∧
      ∀ m₂ W₃ D₁ (s₂ : Heap), Mst H0 B' G' L' m₂ W₃ D₁ s₂ → Mst H0 B G₀ L m (W₁ ++ W₃) D₁ s₂ := by
  obtain ⟨G, g0, g1, g2, g3, g4, g5⟩ := hM.gr
  obtain ⟨oL, hoL⟩ := hM.hasL
  have nd := hM.nd
  rw [List.map_append, List.nodup_append] at nd
  obtain ⟨n1, n2, n3⟩ := nd
  let B' : Gr := fun b => if b ∈ W₂.map (·.1) then none else h.get? b
  have bW : ∀ p ∈ W₁ ++ W₂, B p.1 = none := fun p hp => (hM.own p hp).2.1
  have gL' : G L' = none := by
    cases e : G L' with
    | none => rfl
    | some o => rw [g1 _ o e] at hL; cases hL
  have bL' : B' L' = none := by show (if L' ∈ _ then none else h.get? L') = none; split <;> first | rfl | exact hL
  have base : ∀ b o, H0.get? b = some o → B' b = some o := fun b o e => by
    have hb := hM.base b o e
    have : b ∉ W₂.map (·.1) := fun hm => by
      obtain ⟨p, hp, rfl⟩ := List.mem_map.mp hm
      rw [bW p (List.mem_append.mpr (.inr hp))] at hb; cases hb
    show (if b ∈ _ then none else h.get? b) = some o
    rw [if_neg this]; exact hM.keep b o hb
  refine ⟨B', G, ⟨base, fun b o e => ?_, hns, bL', fun p hp => ?_, hnc, G, fun _ _ e => e, fun b o e => hk b o (g1 b o e), fun _ _ e => .inl e, gL', fun p hp => ?_, g5⟩, ?_⟩
  · replace e : (if b ∈ _ then none else h.get? b) = some o := e
    split at e
    · cases e
    · exact hk b o e
  · rcases List.mem_append.mp hp with hp | hp
    · obtain ⟨w1, w2, w3⟩ := hWc p hp
      refine ⟨w1, ?_, w3⟩
      show (if p.1 ∈ _ then none else h.get? p.1) = none
      split <;> first | rfl | exact w2
    refine ⟨?_, ?_, ?_⟩
    · exact (hM.own p (List.mem_append.mpr (.inr hp))).1.at fun o e => hk _ o e
    · show (if p.1 ∈ _ then none else h.get? p.1) = none
      rw [if_pos (List.mem_map.mpr ⟨p, hp, rfl⟩)]
    · rintro e
      obtain ⟨ob, ho⟩ := (hM.own p (List.mem_append.mpr (.inr hp))).1.some
      rw [e, hL] at ho; cases ho
  · rcases List.mem_append.mp hp with hp | hp
    · cases e : G p.1 with
      | none => rfl
      | some o => have := g1 _ o e; rw [(hWc p hp).2.1] at this; cases this
    · exact g4 p (List.mem_append.mpr (.inr hp))
  · intro m₂ W₃ D₁ s₂ hN
    obtain ⟨G', q0, q1, q2, q3, q4, q5⟩ := hN.gr
    have notW₂ : ∀ b, B b ≠ none → b ∉ W₂.map (·.1) := fun b hb hm => by
      obtain ⟨p, hp, rfl⟩ := List.mem_map.mp hm
      exact hb (bW p (List.mem_append.mpr (.inr hp)))
    have keepAll : ∀ b o, b ∉ W₂.map (·.1) → h.get? b = some o → s₂.get? b = some o := fun b o hb e => by
      refine hN.keep b o ?_
      show (if b ∈ _ then none else h.get? b) = some o
      rw [if_neg hb]; exact e
    have LW : L ∉ W₂.map (·.1) := fun hm => by
      obtain ⟨p, hp, e⟩ := List.mem_map.mp hm
      exact (hM.own p (List.mem_append.mpr (.inr hp))).2.2 e
    have BL' : B' L = some oL := by
      show (if L ∈ _ then none else h.get? L) = some oL
      rw [if_neg LW]; exact hoL
    have W1s : ∀ p ∈ W₁, p.1 ∉ W₂.map (·.1) := fun p hp hm => n3 p.1 (List.mem_map.mpr ⟨p, hp, rfl⟩) p.1 hm rfl
    have W1B : ∀ p ∈ W₁, ∃ o, B' p.1 = some o := fun p hp => by
      obtain ⟨ob, ho⟩ := (hM.own p (List.mem_append.mpr (.inl hp))).1.some
      refine ⟨ob, ?_⟩
      show (if p.1 ∈ _ then none else h.get? p.1) = some ob
      rw [if_neg (W1s p hp)]; exact ho
    have ofB' : ∀ b, B' b = none → B b = none ∧ b ≠ L := fun b hb => by
      refine ⟨?_, ?_⟩
      · cases e : B b with
        | none => rfl
        | some o =>
          have h1 := notW₂ b (by rw [e]; simp)
          have : B' b = some o := by
            show (if b ∈ _ then none else h.get? b) = some o
            rw [if_neg h1]; exact hM.keep b o e
          rw [this] at hb; cases hb
      · rintro rfl; rw [BL'] at hb; cases hb
    refine ⟨hM.base, fun b o e => keepAll b o (notW₂ b (by rw [e]; simp)) (hM.keep b o e), ?_, hM.bL, fun p hp => ?_, ?_, G', fun b o e => q0 b o (g0 b o e), q1, fun b o e => ?_, ?_, fun p hp => ?_, q5⟩
    · exact hM.ns.at fun o ho => keepAll L o LW ho
    · rcases List.mem_append.mp hp with hp | hp
      · exact ⟨(hM.own p (List.mem_append.mpr (.inl hp))).1.at fun o e => keepAll _ o (W1s p hp) e, (hM.own p (List.mem_append.mpr (.inl hp))).2⟩
      · have := hN.own p hp
        exact ⟨this.1, (ofB' _ this.2.1).1, (ofB' _ this.2.1).2⟩
    · rw [List.map_append, List.nodup_append]
      refine ⟨n1, hN.nd, fun a ha b hb e => ?_⟩
      subst e
      obtain ⟨p, hp, rfl⟩ := List.mem_map.mp ha
      obtain ⟨q, hq, e⟩ := List.mem_map.mp hb
      obtain ⟨o, ho⟩ := W1B p hp
      have := (hN.own q hq).2.1
      rw [e, ho] at this; cases this
    · rcases q2 b o e with e | e
      · exact g2 b o e
      · exact .inr (ofB' b e).1
    · cases e : G' L with
      | none => rfl
      | some o =>
        rcases q2 L o e with e | e
        · rw [g3] at e; cases e
        · rw [BL'] at e; cases e
    · rcases List.mem_append.mp hp with hp | hp
      · cases e : G' p.1 with
        | none => rfl
        | some o =>
          rcases q2 _ o e with e | e
          · rw [g4 p (List.mem_append.mpr (.inl hp))] at e; cases e
          · obtain ⟨o', ho⟩ := W1B p hp
            rw [ho] at e; cases e
      · exact q4 p hp

end
section
variable {prog : Program} {w : World} {A : Around} {E : Value → Shared → Prop} {K : Frag} {H0 : Heap} {B G₀ : Gr} {L : Addr} {m : Loc} {l : List (Str × Value)} {W W₁ W₂ : Own} {D : Facts} {h : Heap} {g : Array GenState} {d : Drawn} {t : Nat} {os : OsState} {env : Env} {ns : List (Str × NameKind)} {cl : List (Str × Addr)}
/-- a def one of whose names is held for what it holds inside -/
theorem m_defC1 {f : Addr} {name qual : Str} {params : Arguments} {body : List Stmt} {scope : Scope} {dV kV doc pm cdv ct oc : Value} {an od : Option Addr} {osl : Array (Option Value)} {vals : List Value} {binds lbinds : List (Str × Value)} {cn : Str} {cv : Option Value} {Q : Value → Shared → Prop} {dd uu : Nat}
    (gd : Gd K H0) (hM : Mst H0 B G₀ L m (W₁ ++ W₂) D h) (hA : Rm A (dd + 1) (uu + 3))
    (ho : K.lookup f = some ⟨oc, od, .func (fnOf name qual params body scope dV kV doc pm an cdv ct), osl⟩) (hcd : codeIn K cdv qual = true)
    (hbind : bindArgs (fnOf name qual params body scope dV kV doc pm an cdv ct) ⟨vals, []⟩ = pure binds) (hclo : (fnOf name qual params body scope dV kV doc pm an cdv ct).closure = [])
    (hcs : ∀ n, cellsFrom n scope.names [] = [(cn, n)])
    (hkind : binds.all (fun y => decide (scope.names.lookup y.1 = some .local) || (decide (scope.names.lookup y.1 = some .cell) && y.1 == cn)) = true)
    (hlb : Kn (bindL (fun x => scope.names.lookup x) binds fun _ => none) lbinds) (hcv : bindC (fun x => scope.names.lookup x) binds (fun _ => none) cn = cv)
    (q : ∀ env A' L' c B' G' h' t' (R : Flow → Shared → Prop) E', EnvIs env L' scope.names [(cn, c)] → Rm A' dd uu → Mst H0 B' G' L' (lk lbinds) ((c, .cell cv) :: W₂) D h' →
      (∀ v s', Back H0 B G₀ L m W₁ B' G' L' g d os Q v s' → R (.ret v) s') → (∀ s', Back H0 B G₀ L m W₁ B' G' L' g d os Q .none s' → R .next s') →
      wpAny (model prog w) A' (execs body env) R E' ⟨h', g, d, t', os⟩)
    (hco : scope.isCoroutine = false := by rfl) (hgen : scope.isGenerator = false := by rfl) (hk : scope.kind = .function := by rfl) : wpAny (model prog w) A (call (.ref f) vals) Q E ⟨h, g, d, t, os⟩ := by
  obtain ⟨X, p, loose, mean, mg, mb, T⟩ := gd
  have X' : K.In h := X.keeps hM.low
  refine wpAny_call (codeAny_call_cells (fd := fnOf name qual params body scope dV kV doc pm an cdv ct) (body := body) (binds := binds) (by have := hA.dp; omega) (X' _ _ ho) rfl (T.nolimit.keeps hM.low) (codeRec_of X' hcd) rfl hbind hclo (fun y hy => ?_) (fun s₁ x => ?_) hco hgen hk)
  · have := List.all_eq_true.mp hkind y hy
    rw [Bool.or_eq_true, Bool.and_eq_true, decide_eq_true_eq, decide_eq_true_eq, beq_iff_eq] at this
    rcases this with h1 | ⟨h1, h2⟩
    · exact .inl h1
    · refine .inr ⟨h1, ?_⟩
      show ((cellsFrom _ scope.names []).lookup y.1).isSome = true
      rw [hcs, h2, List.lookup_cons, beq_self_eq_true]; rfl
  · obtain ⟨h', tk, rfl, hkeep⟩ := x.done
    have hcells : (callEnvC (fnOf name qual params body scope dV kV doc pm an cdv ct) h.objs.size f).cells = [(cn, h.objs.size + 1)] := hcs _
    have hc := x.cell cn (h.objs.size + 1) (by rw [hcells, List.lookup_cons, beq_self_eq_true])
    have hns : NsK h' h.objs.size (lk lbinds) := ⟨_, x.toInCall.ns, fun y v hy => Kn.all hlb (y, v) (lk_some hy)⟩
    have hnone : h.get? (h.objs.size + 1) = none := by
      cases e : h.get? (h.objs.size + 1) with
      | none => rfl
      | some o => exact absurd (Heap.lt_size e) (Nat.not_lt.mpr (Nat.le_succ _))
    have hcv' : bindC (callEnvC (fnOf name qual params body scope dV kV doc pm an cdv ct) h.objs.size f).kindOf binds (fun _ => none) cn = cv := hcv
    rw [hcv'] at hc
    have nd := hM.nd
    rw [List.map_append, List.nodup_append] at nd
    obtain ⟨B', G', hN, back⟩ := hM.enterC (m₁ := lk lbinds) (newNone h) hns hkeep [(h.objs.size + 1, .cell cv)] (fun p hp => by
      rw [List.mem_singleton.mp hp]; exact ⟨hc, hnone, Nat.succ_ne_self _⟩) (by
      show ((h.objs.size + 1) :: W₂.map (·.1)).Nodup
      rw [List.nodup_cons]
      refine ⟨fun hm => ?_, nd.2.1⟩
      obtain ⟨p, hp, e⟩ := List.mem_map.mp hm
      obtain ⟨ob, hob⟩ := (hM.own p (List.mem_append.mpr (.inr hp))).1.some
      rw [e, hnone] at hob; cases hob)
    refine wpAny_mono (q (callEnvC (fnOf name qual params body scope dV kV doc pm an cdv ct) h.objs.size f) _ h.objs.size (h.objs.size + 1) B' G' h' tk (fun fl s' => Back H0 B G₀ L m W₁ B' G' h.objs.size g d os Q (retOf fl) s') (fun _ _ => False) ⟨rfl, rfl, hk, rfl, hcells, rfl⟩ hA.deeper hN (fun _ _ z => z) fun _ z => z) (fun fl s' hs => ?_) fun _ _ z => z.elim
    obtain ⟨m', W', D', h', t', rfl, hM', hq⟩ := hs
    exact hq (back _ _ _ _ hM')
end
end Mine
end
section
open PySem PySem.W PySem.Calls PySem.Spec PyProof.Rows
set_option Elab.async false
set_option maxRecDepth 100000
namespace Mine
section
variable {prog : Program} {w : World} {A : Around} {E : Value → Shared → Prop} {K : Frag} {H0 : Heap} {B G₀ : Gr} {L : Addr} {m : Loc} {l : List (Str × Value)} {W W' : Own} {D : Facts} {h : Heap} {g : Array GenState} {d : Drawn} {t : Nat} {os : OsState} {env : Env} {ns : List (Str × NameKind)} {cl : List (Str × Addr)} {c : Addr} {v : Value}
theorem m_ldc {M : Model} {x : Str} {pos : Pos} {Q : Value → Shared → Prop} (hE : EnvIs env L ns cl) (hM : Mst H0 B G₀ L m W D h) (hl : ns.lookup x = some .cell) (hc : cl.lookup x = some c) (hw : (c, Wo.cell (some v)) ∈ W) (q : Q v ⟨h, g, d, t, os⟩)
    (hd : (x == ("__debug__" : Str)) = false := by exact rfl) : wpAny M A (eval (.Name x pos) env) Q E ⟨h, g, d, t, os⟩ :=
  wpAny_Name (wpAny_loadName_cell hE.kind (by unfold Env.kindOf; rw [hE.names]; exact hl) (by rw [hE.cells]; exact hc) (hM.own _ hw).1 q) hd
theorem m_stc {M : Model} {x : Str} {v₀ : Option Value} {Q : Unit → Shared → Prop} (hE : EnvIs env L ns cl) (hM : Mst H0 B G₀ L m W D h) (hl : ns.lookup x = some .cell) (hc : cl.lookup x = some c) (u : WUp c (.cell v₀) (.cell (some v)) W W')
    (q : ∀ h' t', Mst H0 B G₀ L m W' D h' → Q () ⟨h', g, d, t', os⟩) : wpAny M A (storeName env x v) Q E ⟨h, g, d, t, os⟩ :=
  wpAny_storeName_cell hE.kind (by unfold Env.kindOf; rw [hE.names]; exact hl) (by rw [hE.cells]; exact hc) (hM.own _ u.mem).1 fun h' hc' hs => q h' t (hM.up u hc' fun b o hb e => (hs.2 b hb).trans e)
/-- a name held from outside, inside a comprehension -/
theorem r_cell {M : Model} {x : Str} {pos : Pos} {C : Addr} {Q : Value → Shared → Prop} (hE : EnvIs env C ns cl) (hl : ns.lookup x = some .cell) (hc : cl.lookup x = some c) (hv : h.IsCell c (some v)) (q : Q v ⟨h, g, d, t, os⟩)
    (hd : (x == ("__debug__" : Str)) = false := by exact rfl) : wpAny M A (eval (.Name x pos) env) Q E ⟨h, g, d, t, os⟩ :=
  wpAny_Name (wpAny_loadName_cell hE.kind (by unfold Env.kindOf; rw [hE.names]; exact hl) (by rw [hE.cells]; exact hc) hv q) hd
/-- one test of a comprehension -/
theorem r_if1 {M : Model} {c : Expr} {Q : Bool → Shared → Prop} {s : Shared} (q : wpAny M A (isTrue c env (eval c env)) Q E s) :
    wpAny M A (forIn [c] true fun c r => if r = true then do let ok ← isTrue c env (eval c env); pure (ForInStep.yield ok) else pure (ForInStep.yield r)) Q E s := by
  rw [List.forIn_cons]
  refine wpAny_bind ?_
  rw [if_pos rfl]
  exact wpAny_bind (wpAny_mono q (fun b s' z => wpAny_pure (wpAny_pure z)) fun _ _ z => z)
theorem r_if0 {M : Model} {Q : Bool → Shared → Prop} {s : Shared} (q : Q true s) :
    wpAny M A (forIn ([] : List Expr) true fun c r => if r = true then do let ok ← isTrue c env (eval c env); pure (ForInStep.yield ok) else pure (ForInStep.yield r)) Q E s := wpAny_pure q
end
end Mine
end
section
open PySem PySem.W PySem.Calls PySem.Spec PyProof.Rows
set_option Elab.async false
set_option maxRecDepth 100000
namespace Mine
theorem closure_one {env : Env} {L c : Addr} {ns : List (Str × NameKind)} {cl : List (Str × Addr)} {scope : Scope} {z a b : Str} (hE : EnvIs env L ns cl) (hs : scope.names = [(z, .local), (a, .local), (b, .free)]) (hc : cl.lookup b = some c) : closureFor scope env = pure [(b, c)] := by
  unfold closureFor
  rw [hs]
  have e : cellOf env b = pure c := by unfold cellOf; rw [hE.cells, hc]
  simp [e]
theorem closure_none {env : Env} {scope : Scope} {z a : Str} (hs : scope.names = [(z, .local), (a, .local)]) : closureFor scope env = pure [] := by
  unfold closureFor
  rw [hs]
  simp
end Mine
end
section
open PySem PySem.W PySem.Calls PySem.Spec PyProof.Rows PySem.Builtin PySem.Builtin.List
set_option Elab.async false
set_option maxRecDepth 100000
namespace Mine
abbrev sliceAll : Obj := { cls := .type "slice", data := .fields #[.none, .none, .none] }
section
variable {prog : Program} {w : World} {A : Around} {E : Value → Shared → Prop} {K : Frag} {H0 : Heap} {B G₀ : Gr} {L : Addr} {m : Loc} {l : List (Str × Value)} {W W' : Own} {D : Facts} {h : Heap} {g : Array GenState} {d : Drawn} {t : Nat} {os : OsState} {env : Env} {ns : List (Str × NameKind)} {cl : List (Str × Addr)} {c : Addr} {v : Value}
theorem m_sliceAll {p : Pos} {Q : Value → Shared → Prop} (hM : Mst H0 B G₀ L m W D h) (q : ∀ a h' t', Mst H0 B G₀ L m W (([.ref a], [.obj sliceAll]) :: D) h' → Q (.ref a) ⟨h', g, d, t', os⟩) :
    wpAny (model prog w) A (eval (.Slice none none none p) env) Q E ⟨h, g, d, t, os⟩ :=
  wpAny_Slice (wpAny_pure (wpAny_pure (wpAny_pure (q _ _ _ (hM.push sliceAll rfl)))))
theorem m_setAll {a sl r : Addr} {vs us : Array Value} {Q : Unit → Shared → Prop} (hM : Mst H0 B G₀ L m W D h) (up : WUp a (.lst vs) (.lst us) W W') (hs : ([.ref sl], [.obj sliceAll]) ∈ D) (hr : LstIn W D r us) (hra : r ≠ a) (h1 : vs.size ≤ 100000) (h2 : us.size ≤ 100000)
    (q : ∀ h' t', Mst H0 B G₀ L m W' D h' → Q () ⟨h', g, d, t', os⟩) : wpAny (model prog w) A (setItem (.ref a) (.ref sl) (.ref r)) Q E ⟨h, g, d, t, os⟩ := by
  obtain ⟨⟨n, hn⟩, _⟩ := hM.own _ up.mem
  have hl : (Shared.heap ⟨h, g, d, t, os⟩).IsList a vs := ⟨_, hn, rfl, n, rfl⟩
  have hsl := hM.objAt hs
  have hrl := hM.lst hr
  unfold setItem
  try with_reducible refine wpAny_holding ?_
  first | refine wpAny_bind (wpAny_pure ?_) | skip
  refine wpAny_bind (wpAny_sequenceKey hl.typeIs (by decide) ?_)
  refine wpAny_bind (wpAny_callSpecial?_slot (name := Str.ofString "__setitem__") hl.typeIs slot_list_setitem
    (wpAny_call_entry slot_list_setitem hl.typeIs entry_list_setitem ?_ (args_list_setitem _ _ _)))
  have hTs : (Shared.mk h g d t os).TypeIs (.ref sl) "slice" := ⟨_, hsl, rfl⟩
  show wpAny _ _ (Builtin.List.listSubscript? (.ref sl) >>= _) _ _ _
  refine wpAny_bind ?_
  unfold Builtin.List.listSubscript?
  refine wpAny_bind (wpAny_specialOf hTs slice_no_index ?_)
  simp only [Option.isNone_none, if_true]
  refine wpAny_pure ?_
  show wpAny _ _ (typeOf (.ref sl) >>= _) _ _ _
  refine wpAny_bind (wpAny_typeOf hTs ?_)
  rw [if_neg (by decide)]
  rw [listSliceParts_eq]
  refine wpAny_bind (wpAny_bind (wpAny_field hsl rfl (x := .none) rfl (wpAny_bind (wpAny_listPart .none ?_))))
  rw [if_neg (by decide)]
  refine wpAny_bind (wpAny_field hsl rfl (x := .none) rfl (wpAny_bind (wpAny_listPart .none ?_)))
  refine wpAny_bind (wpAny_field hsl rfl (x := .none) rfl (wpAny_bind (wpAny_listPart .none (wpAny_pure ?_))))
  have hsame : Builtin.List.listSameRef (.ref a) (.ref r) = false := by
    show (a == r) = false
    exact beq_eq_false_iff_ne.mpr (Ne.symm hra)
  rw [hsame, if_neg (by decide)]
  obtain ⟨ro, hro, hrc, rn, hrd⟩ := hrl
  refine wpAny_bind ?_
  unfold Builtin.List.listAllItems
  refine wpAny_bind (wpAny_typeOf (T := "list") ⟨ro, hro, hrc⟩ ?_)
  rw [if_pos (by decide)]
  refine wpAny_listItems hro hrd ?_
  refine wpAny_bind (wpAny_listItems hn rfl ?_)
  refine wpAny_bind (wpAny_of_eq (sliceIndices_raw none none none vs.size (by decide)) ?_)
  have eb : sliceBounds none none none vs.size = (0, (vs.size : Int), 1) := rfl
  rw [eb]
  dsimp only
  rw [if_pos (by decide)]
  refine wpAny_bind (wpAny_rule ?_)
  have hlong : Builtin.List.listTooLong (vs.size + us.size) = false := by
    unfold Builtin.List.listTooLong
    rw [decide_eq_false_iff_not, sizeLine_eq]; omega
  rw [hlong, if_neg (by decide)]
  have e1 : (vs.extract 0 (Int.toNat 0) ++ us ++ vs.extract (Int.toNat (max 0 (vs.size : Int)))) = us := by
    have : (max 0 (vs.size : Int)).toNat = vs.size := by omega
    rw [this]
    simp
  unfold Builtin.List.listUpdate
  dsimp only
  refine wpAny_bind (wpAny_updateSeq (f := fun xs => xs.extract 0 (Int.toNat 0) ++ us ++ xs.extract (Int.toNat (max 0 (vs.size : Int)))) hn rfl ?_ (by rw [sizeLine_eq]; omega) (by rw [e1, sizeLine_eq]; omega))
  refine wpAny_bind (wpAny_letGo ?_)
  refine wpAny_pure ⟨_, rfl, wpAny_pure (q _ _ (hM.up up ?_ fun b o hb e => ?_))⟩
  · have h1 := Heap.get?_update_self (Obj.mapSeq fun xs => xs.extract 0 (Int.toNat 0) ++ us ++ xs.extract (Int.toNat (max 0 (vs.size : Int)))) hn rfl
    have h2 : ∀ k, (Obj.mapSeq (fun xs => xs.extract 0 (Int.toNat 0) ++ us ++ xs.extract (Int.toNat (max 0 (vs.size : Int)))) { cls := .type "list", data := .seq vs k }) = { cls := .type "list", data := .seq us (if (us.size == vs.size) = true then k else k + 1) } := fun k => by
      show Obj.mk _ _ (Data.seq _ _) _ = _
      simp only [e1]
    rw [h2] at h1
    exact ⟨_, h1⟩
  · rw [Heap.get?_update_ne _ _ _ _ hb]; exact e
end
end Mine
end
section
open PySem PySem.W PySem.Calls PySem.Spec PyProof.Rows
set_option Elab.async false
set_option maxRecDepth 100000
namespace Mine
section
variable {prog : Program} {w : World} {A : Around} {E : Value → Shared → Prop} {K : Frag} {H0 : Heap} {B G₀ : Gr} {L : Addr} {m : Loc} {l : List (Str × Value)} {W W' : Own} {D : Facts} {h : Heap} {g : Array GenState} {d : Drawn} {t : Nat} {os : OsState} {x C dx f : Addr} {fl : List (Str × Value)} {v k : Value}
/-- operators that a class of the text defines -/
theorem m_isetItem {Q : Unit → Shared → Prop} (gd : Gd K H0) (hM : Mst H0 B G₀ L m W D h) (i : Inst W D x C dx fl) (hq : noSeq K C = true) (hs : findIn K (.ref C) "__setitem__" = some (some (.ref f))) (ht : typeIn K (.ref f) = some (.type "function"))
    (q : wpAny (model prog w) A (call (.ref f) [.ref x, k, v]) (fun _ s' => Q () s') E ⟨h, g, d, t, os⟩) : wpAny (model prog w) A (setItem (.ref x) k v) Q E ⟨h, g, d, t, os⟩ := by
  obtain ⟨o, I, -, -⟩ := hM.inst i
  have X := gd.X.keeps hM.low
  unfold setItem sequenceKey
  refine wpAny_holding (wpAny_bind (wpAny_bind (I.type.here (wpAny_bind ((anyM_none X hq).here ?_)))))
  exact wpAny_pure (wpAny_bind (special_fn (s := ⟨h, g, d, t, os⟩) X I hs ht (wpAny_mono q (fun _ _ z => wpAny_pure z) fun _ _ z => z)))
theorem m_idelItem {Q : Unit → Shared → Prop} (gd : Gd K H0) (hM : Mst H0 B G₀ L m W D h) (i : Inst W D x C dx fl) (hq : noSeq K C = true) (hs : findIn K (.ref C) "__delitem__" = some (some (.ref f))) (ht : typeIn K (.ref f) = some (.type "function"))
    (q : wpAny (model prog w) A (call (.ref f) [.ref x, k]) (fun _ s' => Q () s') E ⟨h, g, d, t, os⟩) : wpAny (model prog w) A (delItem (.ref x) k) Q E ⟨h, g, d, t, os⟩ := by
  obtain ⟨o, I, -, -⟩ := hM.inst i
  have X := gd.X.keeps hM.low
  unfold delItem sequenceKey
  refine wpAny_holding (wpAny_bind (wpAny_bind (I.type.here (wpAny_bind ((anyM_none X hq).here ?_)))))
  exact wpAny_pure (wpAny_bind (special_fn (s := ⟨h, g, d, t, os⟩) X I hs ht (wpAny_mono q (fun _ _ z => wpAny_pure z) fun _ _ z => z)))
theorem m_igetItem {Q : Value → Shared → Prop} (gd : Gd K H0) (hM : Mst H0 B G₀ L m W D h) (i : Inst W D x C dx fl) (hq : noSeq K C = true) (hs : findIn K (.ref C) "__getitem__" = some (some (.ref f))) (ht : typeIn K (.ref f) = some (.type "function"))
    (q : wpAny (model prog w) A (call (.ref f) [.ref x, k]) Q E ⟨h, g, d, t, os⟩) : wpAny (model prog w) A (getItem (.ref x) k) Q E ⟨h, g, d, t, os⟩ := by
  obtain ⟨o, I, -, -⟩ := hM.inst i
  have X := gd.X.keeps hM.low
  unfold getItem sequenceKey
  refine wpAny_holding (wpAny_bind (wpAny_bind (I.type.here (wpAny_bind ((anyM_none X hq).here ?_)))))
  exact wpAny_pure (wpAny_bind (special_fn (s := ⟨h, g, d, t, os⟩) X I hs ht (wpAny_mono q (fun _ _ z => wpAny_pure z) fun _ _ z => z)))
theorem m_iin {Q : Value → Shared → Prop} (gd : Gd K H0) (hM : Mst H0 B G₀ L m W D h) (i : Inst W D x C dx fl) (hs : findIn K (.ref C) "__contains__" = some (some (.ref f))) (ht : typeIn K (.ref f) = some (.type "function"))
    (q : wpAny (model prog w) A (call (.ref f) [.ref x, v]) (fun r s' => ∃ b, r = .bool b ∧ Q (.bool b) s') E ⟨h, g, d, t, os⟩) : wpAny (model prog w) A (compareOp .In v (.ref x)) Q E ⟨h, g, d, t, os⟩ := by
  obtain ⟨o, I, -, -⟩ := hM.inst i
  have X := gd.X.keeps hM.low
  have hc : wpAny (model prog w) A (contains (.ref x) v) (fun b => Q (.bool b)) E ⟨h, g, d, t, os⟩ := by
    unfold contains
    refine wpAny_holding (wpAny_bind (wpAny_bind (I.type.here ((looks_findIn X hs).here ?_))))
    rw [if_neg (by simp)]
    refine wpAny_bind (unlessNone_K (s := ⟨h, g, d, t, os⟩) X I hs (beq_iff_eq.mpr ht) (wpAny_mono q (fun r s' z => ?_) fun _ _ z => z))
    obtain ⟨b, rfl, z⟩ := z
    exact wpAny_truthy_bool z
  exact wpAny_bind (wpAny_mono hc (fun _ _ z => wpAny_pure z) fun _ _ z => z)
theorem m_ilen {Q : Value → Shared → Prop} (gd : Gd K H0) (hM : Mst H0 B G₀ L m W D h) (i : Inst W D x C dx fl) (hs : findIn K (.ref C) "__len__" = some (some (.ref f))) (ht : typeIn K (.ref f) = some (.type "function"))
    (q : wpAny (model prog w) A.in1 (call (.ref f) [.ref x]) (fun r s' => ∃ (n : Nat) (u : Tok), r = .int n u ∧ n < 100000 ∧ Q (.int n s'.toks) { s' with toks := s'.toks + 1 }) E ⟨h, g, d, t, os⟩) : wpAny (model prog w) A (call (.builtin "len") [.ref x]) Q E ⟨h, g, d, t, os⟩ := by
  obtain ⟨o, I, -, -⟩ := hM.inst i
  have X := gd.X.keeps hM.low
  refine Calls.call_function_entry kind_len plain_len entry_len (args_len1 _) ?_
  unfold Builtin.«len»
  refine wpAny_bind (m := oneArg "len" _) (wpAny_pure ?_)
  refine wpAny_bind (m := callSpecial? (.ref x) (Str.ofString "__len__")) (special_fn (s := ⟨h, g, d, t, os⟩) X I hs ht (wpAny_mono q (fun r s' z => ?_) fun _ _ y => y))
  obtain ⟨n, u, rfl, hn, z⟩ := z
  refine wpAny_bind (wpAny_holding (wpAny_pure ?_))
  refine wpAny_bind (wpAny_letGo ?_)
  show wpAny _ _ (if (n : Int) < 0 then _ else _) _ _ _
  rw [if_neg (by omega)]
  show wpAny _ _ (if (n : Int) ≥ 2 ^ 63 then _ else _) _ _ _
  rw [if_neg (by omega)]
  exact wpAny_bind (wpAny_mkInt (wpAny_pure ⟨_, rfl, z⟩))
theorem m_istr {Q : Value → Shared → Prop} {dd : Nat} (gd : Gd K H0) (hM : Mst H0 B G₀ L m W D h) (hA : Rm A dd 3) (i : Inst W D x C dx fl) (hs : findIn K (.ref C) "__str__" = some (some (.ref f))) (ht : typeIn K (.ref f) = some (.type "function"))
    (q : wpAny (model prog w) A.in1.in1 (call (.ref f) [.ref x]) (fun r s' => ∃ (y : Str) (u : Tok), r = .str y u ∧ Q (.str y u) s') E ⟨h, g, d, t, os⟩) : wpAny (model prog w) A (call (.type "str") [.ref x]) Q E ⟨h, g, d, t, os⟩ := by
  obtain ⟨o, I, -, -⟩ := hM.inst i
  have X := gd.X.keeps hM.low
  refine kso_call (s := ⟨h, g, d, t, os⟩) (by have := hA.in1.in1.un; omega) X I hs (beq_iff_eq.mpr ht) (wpAny_mono q (fun r s' z => ?_) fun _ _ y => y)
  obtain ⟨y, u, rfl, z⟩ := z
  exact z
theorem m_del {M : Model} {env : Env} {o sl : Expr} {sp pos : Pos} {Q : Flow → Shared → Prop} {s : Shared}
    (q : wpAny M A (eval o env) (fun ov s₁ => wpAny M A (eval sl env) (fun kv s₂ => wpAny M A (delItem ov kv) (fun _ => Q .next) E s₂) E s₁) E s) : wpAny M A (exec (.Delete [.Subscript o sl sp] pos) env) Q E s := by
  refine wpAny_Delete ?_
  refine wpAny_deleteEach_cons (wpAny_delete_Subscript (wpAny_mono q (fun ov s₁ z => wpAny_mono z (fun kv s₂ y => wpAny_mono y (fun _ s₃ x => wpAny_deleteEach_nil x) fun _ _ x => x) fun _ _ x => x) fun _ _ x => x))
end
end Mine
end
section
open PySem PySem.W PySem.Calls PySem.Spec PyProof.Rows
set_option Elab.async false
set_option maxRecDepth 100000
namespace Mine
section
variable {prog : Program} {w : World} {A : Around} {E : Value → Shared → Prop} {R : Result → Shared → Prop} {s : Shared}
theorem t_loop {elt target iter : Expr} {ifs : List Expr} {scope : Scope} {pos : Pos} {it acc : Value} {env : Env} (I : Nat → Shared → Prop)
    (turn : ∀ n s, I n s → wpAny (model prog w) A (pyNext it) (fun r s₁ => match r with
      | none => R (.ok .next) s₁
      | some v => wpAny (model prog w) A (letOwnedTupleGo target it v) (fun _ s₀ => wpAny (model prog w) A (assign target env v) (fun _ s₂ =>
          wpAny (model prog w) A (forIn ifs true fun c r => if r = true then do let ok ← isTrue c env (eval c env); pure (ForInStep.yield ok) else pure (ForInStep.yield r)) (fun ok s₃ =>
            Both ok (wpAny (model prog w) A (eval elt env) (fun x s₄ =>
              wpAny (model prog w) A (call (.builtin "list.append") [acc, x]) (fun _ s₅ => ∃ m, m < n ∧ I m s₅) (notedBy (model prog w) A env fun e s' => R (.error e) s') s₄) (notedBy (model prog w) A env fun e s' => R (.error e) s') s₃)
            (∃ m, m < n ∧ I m s₃)) (notedBy (model prog w) A env fun e s' => R (.error e) s') s₂) (notedBy (model prog w) A env fun e s' => R (.error e) s') s₀) (notedBy (model prog w) A env fun e s' => R (.error e) s') s₁) (notedBy (model prog w) A env fun e s' => R (.error e) s') s)
    (n : Nat) (h : I n s) :
    codeAny (model prog w) A (.compLoop (.ListComp elt [⟨target, iter, ifs, 0⟩] scope pos) 0 it acc env) R s := by
  refine codeAny_loop rfl I (fun n s hI => ?_) n h
  show wpAny _ A ((compTurn (.ListComp elt [⟨target, iter, ifs, 0⟩] scope pos) 0 it acc env).onRaise (fun x => do noteFrame x env; theTreesLotGoes x)) _ _ s
  refine wpAny_noted ?_
  rw [compTurn_list]
  refine wpAny_bind (wpAny_standAt (wpAny_bind (wpAny_mono (turn n s hI) (fun r s₁ h₁ => ?_) fun _ _ h' => h')))
  cases r with
  | none => exact wpAny_pure h₁
  | some v =>
    refine wpAny_bind (wpAny_mono h₁ (fun _ s₀ h₀ => ?_) fun _ _ h' => h')
    refine wpAny_bind (wpAny_mono h₀ (fun _ s₂ h₂ => wpAny_bind (wpAny_mono h₂ (fun ok s₃ h₃ => ?_) fun _ _ h' => h')) fun _ _ h' => h')
    cases ok with
    | false => exact wpAny_pure ⟨rfl, h₃.isF⟩
    | true =>
      exact wpAny_bind (wpAny_bind (wpAny_mono h₃.isT (fun x s₄ h₄ => wpAny_bind (wpAny_mono h₄ (fun _ s₅ h₅ => wpAny_pure (wpAny_pure ⟨rfl, h₅⟩)) fun _ _ h' => h')) fun _ _ h' => h'))

theorem range_filter_snoc (p : Nat → Bool) (i : Nat) : (List.range (i + 1)).filter p = (List.range i).filter p ++ (if p i then [i] else []) := by
  rw [List.range_succ, List.filter_append]
  cases hp : p i <;> simp [hp]

theorem c2_walk {elt iter : Expr} {x y : Str} {px py tp : Pos} {kt : Nat} {ifs : List Expr} {scope : Scope} {pos : Pos} {I D : Addr} {fp wr : List Addr} {n : Nat} {Pt : Nat → Array Value → Prop} {St : Nat → Heap → Prop} {Mid : Nat → Addr → Heap → Prop}
    {cenv : Env} {m : Str → Option Value} (W : WalksU prog w A I fp wr n Pt St Mid) (hA : A.handled = none) (p : Nat → Bool) (F : Nat → Value → Prop) (hshape : ∀ i vals, Pt i vals → ∃ v₁ v₂, vals = #[v₁, v₂])
    (hx : cenv.kindOf x = some .local) (hy : cenv.kindOf y = some .local) (hxy : x ≠ y) (hp : (cenv.scope.kind == .class || (cenv.scope.kind == .module && cenv.locals != cenv.globals)) = false)
    (hDC : D ≠ cenv.locals) (hDf : D ∉ fp) (hCf : cenv.locals ∉ fp)
    (hst : St 0 s.heap) (hacc : s.heap.PlainList D #[]) (hn : s.heap.Ns cenv.locals m)
    (htests : ∀ i v₁ v₂ s₂ m₂ E', i < n → Pt i #[v₁, v₂] → s₂.heap.Ns cenv.locals m₂ → m₂ x = some v₁ → m₂ y = some v₂ → (∀ b o, b ≠ cenv.locals → b ∉ wr → b ≠ D → s.heap.get? b = some o → s₂.heap.get? b = some o) →
      wpAny (model prog w) A (forIn ifs true fun c r => if r = true then do let ok ← isTrue c cenv (eval c cenv); pure (ForInStep.yield ok) else pure (ForInStep.yield r))
        (fun ok s₃ => ok = p i ∧ Keeps s₂ s₃) E' s₂)
    (helt : ∀ i v₁ v₂ s₂ m₂ E', i < n → Pt i #[v₁, v₂] → p i = true → s₂.heap.Ns cenv.locals m₂ → m₂ x = some v₁ → m₂ y = some v₂ → (∀ b o, b ≠ cenv.locals → b ∉ wr → b ≠ D → s.heap.get? b = some o → s₂.heap.get? b = some o) →
      wpAny (model prog w) A (eval elt cenv) (fun y s₃ => F i y ∧ Keeps s₂ s₃) E' s₂)
    (hR : ∀ h' tk m' ys, h'.Ns cenv.locals m' → h'.PlainList D ys → Paired F ((List.range n).filter p) ys.toList →
      (∀ b o, b ≠ cenv.locals → b ∉ wr → b ≠ D → s.heap.get? b = some o → h'.get? b = some o) → R (.ok .next) { s with heap := h', toks := tk })
    (hsz : n ≤ sizeLine) (he : assignEach [.Name x px, .Name y py] cenv = [(false, assign (.Name x px) cenv), (false, assign (.Name y py) cenv)] := by rfl) :
    codeAny (model prog w) A (.compLoop (.ListComp elt [⟨.Tuple [.Name x px, .Name y py] kt tp, iter, ifs, 0⟩] scope pos) 0 (.ref I) (.ref D) cenv) R s := by
  refine t_loop
    (fun k s' => ∃ h' tk m' ys i, s' = { s with heap := h', toks := tk } ∧ St i h' ∧ h'.PlainList D ys ∧ h'.Ns cenv.locals m' ∧
      Paired F ((List.range i).filter p) ys.toList ∧ i ≤ n ∧ k = n + 1 - i ∧
      (∀ b o, b ≠ cenv.locals → b ∉ wr → b ≠ D → s.heap.get? b = some o → h'.get? b = some o)) ?_ (n + 1)
    ⟨s.heap, s.toks, m, #[], 0, rfl, hst, hacc, hn, by simpa using Paired.nil, Nat.zero_le _, rfl, fun _ _ _ _ _ e => e⟩
  rintro k s' ⟨H, tk, m', ys, i, rfl, hst', hacc', hn', hF, hi, rfl, hk⟩
  have hCw : cenv.locals ∉ wr := fun h => hCf (W.sub _ h)
  have hDw : D ∉ wr := fun h => hDf (W.sub _ h)
  by_cases hlt : i < n
  · refine W.item i _ _ _ hlt hst' fun T vals h₁ tk₁ hPt hT hMid hk₁ => ?_
    have hTw := W.apart _ _ _ hMid
    refine W.go _ _ _ i T _ _ _ hMid fun h₂ hst₂ hk₂ => ?_
    obtain ⟨v₁, v₂, rfl⟩ := hshape i vals hPt
    have hT₂ : h₂.IsTuple T #[v₁, v₂] := hT.at fun o e => hk₂ _ o hTw e
    refine wpAny_assign_Tuple hA hT₂ (by rw [he]; rfl) (by rw [he]; rfl) fun h₃ hx₃ => ?_
    have e₃ : ∀ b o, h₂.get? b = some o → h₃.get? b = some o := fun b o e => hx₃ b o (Nat.ne_of_lt (Heap.lt_size e)) e
    have hn₃ : h₃.Ns cenv.locals m' := (hn'.at' fun o e => e₃ _ o (hk₂ _ o hCw (hk₁ _ o hCw e)))
    rw [he]
    refine wpAny_assignInOrder_more ?_
    refine wpAny_assign_Name (wpAny_storeName_local hx hn₃ (fun h₄ hn₄ hs₄ => ?_) hp)
    refine wpAny_assignInOrder_more ?_
    refine wpAny_assign_Name (wpAny_storeName_local hy hn₄ (fun h₅ hn₅ hs₅ => wpAny_assignInOrder_none ?_) hp)
    have up₅ : ∀ b o, b ≠ cenv.locals → b ∉ wr → H.get? b = some o → h₅.get? b = some o := fun b o hbC hbw e => hs₅.extBut b o hbC (hs₄.extBut b o hbC (e₃ _ o (hk₂ _ o hbw (hk₁ _ o hbw e))))
    have hst₅ : St (i + 1) h₅ := W.frame _ _ _ hst₂ fun b hb o e => by
      have hbC : b ≠ cenv.locals := fun q => hCf (q ▸ hb)
      exact hs₅.extBut b o hbC (hs₄.extBut b o hbC (e₃ _ o e))
    have hk₅ : ∀ b o, b ≠ cenv.locals → b ∉ wr → b ≠ D → s.heap.get? b = some o → h₅.get? b = some o := fun b o hbC hbw hbD e => up₅ b o hbC hbw (hk b o hbC hbw hbD e)
    refine wpAny_mono (htests i v₁ v₂ _ _ _ hlt hPt hn₅ (by simp [hxy]) (by simp) hk₅) (fun ok s₃ h₃ => ?_) fun _ _ e => e
    obtain ⟨rfl, h₆, tk₆, rfl, hk₆⟩ := h₃
    have hst₆ : St (i + 1) h₆ := W.frame _ _ _ hst₅ fun b _ o e => hk₆ b o e
    have hacc₆ : h₆.PlainList D ys := hacc'.at fun o e => hk₆ _ o (up₅ D o hDC hDw e)
    have hn₆ := hn₅.keeps hk₆
    have hk₆' : ∀ b o, b ≠ cenv.locals → b ∉ wr → b ≠ D → s.heap.get? b = some o → h₆.get? b = some o := fun b o hbC hbw hbD e => hk₆ b o (hk₅ b o hbC hbw hbD e)
    refine Both.of (fun hpv => ?_) fun hpv => ?_
    · refine wpAny_mono (helt i v₁ v₂ _ _ _ hlt hPt hpv hn₆ (by simp [hxy]) (by simp) hk₆') (fun yv s₄ h₄ => ?_) fun _ _ e => e
      obtain ⟨hFy, h₇, tk₇, rfl, hk₇⟩ := h₄
      have hys : ys.size ≤ sizeLine := by
        have e1 := hF.length
        have e2 : ((List.range i).filter p).length ≤ (List.range i).length := List.length_filter_le _ _
        have e4 : ys.toList.length = ys.size := by simp
        rw [List.length_range] at e2
        omega
      refine wpAny_list_append_plain (hsz := hys) (hacc₆.at fun o e => hk₇ _ o e) fun h₈ hl₈ hs₈ => ?_
      refine ⟨n + 1 - (i + 1), by omega, h₈, tk₇, _, ys.push yv, i + 1, rfl, ?_, hl₈, (hn₆.keeps hk₇).sameBut hs₈ (Ne.symm hDC), ?_, hlt, rfl, fun b o hbC hbw hbD e => hs₈.extBut b o hbD (hk₇ b o (hk₆' b o hbC hbw hbD e))⟩
      · exact W.frame _ _ h₈ hst₆ fun b hb o e => hs₈.extBut b o (fun q => hDf (q ▸ hb)) (hk₇ b o e)
      · rw [range_filter_snoc, if_pos hpv, Array.toList_push]
        exact hF.snoc hFy
    · refine ⟨n + 1 - (i + 1), by omega, h₆, tk₆, _, ys, i + 1, rfl, hst₆, hacc₆, hn₆, ?_, hlt, rfl, hk₆'⟩
      rw [range_filter_snoc, hpv]
      simpa using hF
  · have hin : i = n := by omega
    subst hin
    refine W.done _ _ _ hst' fun h₁ tk₁ hk₁ => ?_
    exact hR h₁ tk₁ m' ys (hn'.at' fun o e => hk₁ _ o hCw e) (hacc'.at fun o e => hk₁ _ o hDw e) hF fun b o hbC hbw hbD e => hk₁ b o hbw (hk b o hbC hbw hbD e)
end
end Mine
end
section
open PySem PySem.W PySem.Calls PySem.Spec PyProof.Rows
set_option Elab.async false
set_option maxRecDepth 100000
namespace Mine
section
variable {prog : Program} {w : World} {A : Around} {E : Value → Shared → Prop} {env : Env}
/-- what a comprehension over two names does with what it goes over -/
def Comp2Go (prog : Program) (w : World) (A : Around) (env : Env) (scope : Scope) (cl : List (Str × Addr)) (x y : Str) (ifs : List Expr) (elt : Expr) (n : Nat) (p : Nat → Bool) (F : Nat → Value → Prop) (Q : Value → Shared → Prop) (E : Value → Shared → Prop) (xv : Value) (s₁ : Shared) : Prop :=
  wpAny (model prog w) A (pyIter xv) (fun it s₂ => ∃ I fp wr Pt St Mid, it = .ref I ∧ WalksU prog w A I fp wr n Pt St Mid ∧ (∀ i vals, Pt i vals → ∃ v₁ v₂, vals = #[v₁, v₂]) ∧ n ≤ sizeLine ∧ St 0 s₂.heap ∧ (∀ b ∈ fp, b < s₂.heap.objs.size) ∧
    (∀ C i v₁ v₂ s₃ m₃ E', i < n → Pt i #[v₁, v₂] → s₃.heap.Ns C m₃ → m₃ x = some v₁ → m₃ y = some v₂ → (∀ b o, b ∉ wr → s₂.heap.get? b = some o → s₃.heap.get? b = some o) →
      wpAny (model prog w) A (forIn ifs true fun c r => if r = true then do let ok ← isTrue c (compEnvC scope cl C env) (eval c (compEnvC scope cl C env)); pure (ForInStep.yield ok) else pure (ForInStep.yield r)) (fun ok s₄ => ok = p i ∧ Keeps s₃ s₄) E' s₃) ∧
    (∀ C i v₁ v₂ s₃ m₃ E', i < n → Pt i #[v₁, v₂] → p i = true → s₃.heap.Ns C m₃ → m₃ x = some v₁ → m₃ y = some v₂ → (∀ b o, b ∉ wr → s₂.heap.get? b = some o → s₃.heap.get? b = some o) →
      wpAny (model prog w) A (eval elt (compEnvC scope cl C env)) (fun z s₄ => F i z ∧ Keeps s₃ s₄) E' s₃) ∧
    (∀ D h' tk ys, s₂.heap.get? D = none → h'.PlainList D ys → Paired F ((List.range n).filter p) ys.toList → (∀ b o, b ∉ wr → s₂.heap.get? b = some o → h'.get? b = some o) → Q (.ref D) { s₂ with heap := h', toks := tk })) E s₁
theorem m_comp2 {s : Shared} {elt iter : Expr} {x y : Str} {px py tp : Pos} {kt : Nat} {ifs : List Expr} {scope : Scope} {cl : List (Str × Addr)} {pos : Pos} {n : Nat} {Q : Value → Shared → Prop} (p : Nat → Bool) (F : Nat → Value → Prop) (hA : A.handled = none)
    (hclos : closureFor scope env = pure cl)
    (q : wpAny (model prog w) A (eval iter env) (fun xv s₁ => Comp2Go prog w A env scope cl x y ifs elt n p F Q E xv s₁) E s)
    (hcell : ∀ z ∈ scope.names, z.2 ≠ .cell := by decide) (hkind : scope.kind = .function := by rfl) (hnames : ∀ z ∈ scope.names, z.2 = .local → scope.names.lookup z.1 = some .local := by decide) (hx : scope.names.lookup x = some .local := by rfl) (hy : scope.names.lookup y = some .local := by rfl) (hxy : x ≠ y := by decide)
    (hs : ∀ z, foldedSetIterable iter env z = pure z := by intro _; rfl) : wpAny (model prog w) A (eval (.ListComp elt [⟨.Tuple [.Name x px, .Name y py] kt tp, iter, ifs, 0⟩] scope pos) env) Q E s := by
  rw [eval_ListComp]
  refine wpAny_comprehension_free (use := none) rfl hs hclos hkind hnames (wpAny_mono q (fun xv s₁ h₁ => wpAny_mono h₁ (fun it s₂ h₂ => ?_) fun _ _ e => e) fun _ _ e => e)
  obtain ⟨I, fp, wr, Pt, St, Mid, rfl, W, hsh, hsz, hst, hfp, hT, hE, hQ⟩ := h₂
  refine wpAny_newObj_type (wpAny_newFunctionEnv hcell (by intro y hy; simp at hy) (fun h₁ hns₁ hsb₁ => ?_) hkind)
  dsimp only at hns₁ hsb₁ ⊢
  generalize hH2 : s₂.heap.push { cls := .type "list", dict := none, data := .seq ([] : List Value).toArray } = H2 at hns₁ hsb₁ ⊢
  have hC : H2.objs.size = s₂.heap.objs.size + 1 := by rw [← hH2, Heap.size_push]
  have hDC : s₂.heap.objs.size ≠ H2.objs.size := by rw [hC]; exact Nat.ne_of_lt (Nat.lt_succ_self _)
  have below : ∀ b, b < s₂.heap.objs.size → b ≠ H2.objs.size ∧ b ≠ s₂.heap.objs.size := fun b hb => ⟨by rw [hC]; exact Nat.ne_of_lt (Nat.lt_succ_of_lt hb), Nat.ne_of_lt hb⟩
  have hDf : s₂.heap.objs.size ∉ fp := fun hm => Nat.lt_irrefl _ (hfp _ hm)
  have hCf : H2.objs.size ∉ fp := fun hm => by have := hfp _ hm; rw [hC] at this; exact Nat.lt_irrefl _ (Nat.lt_of_succ_lt this)
  have old : ∀ b o, s₂.heap.get? b = some o → h₁.get? b = some o := fun b o e => hsb₁.extBut b o (below b (Heap.lt_size e)).1 (Heap.get?_push_of_some _ (hH2 ▸ Heap.get?_push_of_some _ e))
  have hacc : h₁.PlainList s₂.heap.objs.size #[] := ⟨_, hsb₁.extBut _ _ hDC (Heap.get?_push_of_some _ (hH2 ▸ Heap.get?_push_size _ rfl))⟩
  have hst₁ : St 0 h₁ := W.frame _ _ _ hst fun b _ o e => old b o e
  have fresh : ∀ a, s₂.heap.objs.size ≤ a → s₂.heap.get? a = none := fun a ha => by
    cases e : s₂.heap.get? a with
    | none => rfl
    | some o' => exact absurd (Heap.lt_size e) (Nat.not_lt.mpr ha)
  have up : ∀ {h₃ : Heap}, (∀ b o, b ≠ H2.objs.size → b ∉ wr → b ≠ s₂.heap.objs.size → h₁.get? b = some o → h₃.get? b = some o) → ∀ b o, b ∉ wr → s₂.heap.get? b = some o → h₃.get? b = some o :=
    fun hk b o hbw e => hk b o (below b (Heap.lt_size e)).1 hbw (below b (Heap.lt_size e)).2 (old b o e)
  have loop : ∀ s₃ : Shared, s₃ = { s₂ with heap := h₁, toks := s₂.toks + ([] : List (Str × Value)).length } →
      codeAny (model prog w) A (.compLoop (.ListComp elt [⟨.Tuple [.Name x px, .Name y py] kt tp, iter, ifs, 0⟩] scope pos) 0 (.ref I) (.ref s₂.heap.objs.size) (compEnvC scope cl H2.objs.size env))
        (compPost (model prog w) A E none Q (.ref s₂.heap.objs.size) H2.objs.size) s₃ := by
    rintro s₃ rfl
    refine c2_walk (cenv := compEnvC scope cl H2.objs.size env) W hA p F hsh (lookup_relabel_local hx) (lookup_relabel_local hy) hxy (by simp [compEnvC, relabel, hkind]) hDC hDf hCf hst₁ hacc hns₁
      (fun i v₁ v₂ s₃ m₃ E' hi hv hn h1 h2 hk => hT _ i v₁ v₂ s₃ m₃ _ hi hv hn h1 h2 (up hk))
      (fun i v₁ v₂ s₃ m₃ E' hi hv hpv hn h1 h2 hk => hE _ i v₁ v₂ s₃ m₃ _ hi hv hpv hn h1 h2 (up hk)) (fun h' tk m' ys hn hpl hF hk => ?_) hsz
    exact ⟨m', hn, fun h'' hs'' => hQ _ h'' tk ys (fresh _ (Nat.le_refl _)) (hpl.extBut hs''.extBut hDC) hF fun b o hbf e => hs''.extBut b o (below b (Heap.lt_size e)).1 (up hk b o hbf e)⟩
  exact codeAny_compStart_list (loop _ rfl) (W.self 0 _ _ _ hst₁ (loop _ rfl))
end
theorem paired_da {G : Gr} {o : Nat → Da} {F : Nat → Value → Prop} : ∀ {L : List Nat} {ys : List Value}, Paired F L ys → (∀ i y, i ∈ L → F i y → DaIn G y (o i)) → DaAll G ys (L.map o)
  | _, _, .nil, _ => .nil
  | _, _, .cons a b, k => .cons (k _ _ (.head _) a) (paired_da b fun i y hi => k i y (.tail _ hi))
section
variable {prog : Program} {w : World} {A : Around} {E : Value → Shared → Prop} {K : Frag} {H0 : Heap} {B G₀ : Gr} {L : Addr} {m : Loc} {l : List (Str × Value)} {W W' : Own} {D : Facts} {h : Heap} {g : Array GenState} {d : Drawn} {t : Nat} {os : OsState} {env : Env}
/-- over a list of rows, no test -/
theorem m_c2rows {elt : Expr} {x y : Str} {scope : Scope} {clc : List (Str × Addr)} {a : Addr} {vs : Array Value} {rs : List Row} {out : Row → Da} {Q : Value → Shared → Prop} (hA : A.handled = none) (hM : Mst H0 B G₀ L m W D h) (hL : h.IsList a vs)
    (hf : (vs.toList, rs.map rowDa) ∈ D) (hlen : rs.length ≤ 1000)
    (elts : ∀ C r t₁ t₂ (h₃ : Heap) g₃ d₃ t os₃ m₃ E', r ∈ rs → h₃.Ns C m₃ → m₃ x = some (.str r.1 t₁) → m₃ y = some (.str r.2 t₂) →
      wpAny (model prog w) A (eval elt (compEnvC scope clc C env)) (fun z s₄ => (∀ G : Gr, DaIn G z (out r)) ∧ ∃ t', s₄ = ⟨h₃, g₃, d₃, t', os₃⟩) E' ⟨h₃, g₃, d₃, t, os₃⟩)
    (q : ∀ r ys h' t', Mst H0 B G₀ L m ((r, .lst ys) :: W) ((ys.toList, rs.map out) :: D) h' → Q (.ref r) ⟨h', g, d, t', os⟩) :
    Comp2Go prog w A env scope clc x y [] elt rs.length (fun _ => true) (fun i z => ∀ r, rs[i]? = some r → ∀ G : Gr, DaIn G z (out r)) Q E (.ref a) ⟨h, g, d, t, os⟩ := by
  obtain ⟨G, gh, gf⟩ := hM.told
  have hall : DaAll h.get? vs.toList (rs.map rowDa) := (gf _ hf).mono gh
  have hsz : vs.size = rs.length := by simpa using hM.has hf
  have hlt : a < h.objs.size := by obtain ⟨o, ho, _⟩ := hL; exact Heap.lt_size ho
  have row : ∀ i : Nat, ∃ (T : Addr) (vals : Array Value), i < rs.length → vs[i]? = some (.ref T) ∧ h.IsTuple T vals ∧ ∃ r t₁ t₂, rs[i]? = some r ∧ vals = #[.str r.1 t₁, .str r.2 t₂] := fun i => by
    by_cases hi : i < rs.length
    · have hr := List.getElem?_eq_getElem hi
      have hv : vs[i]? = some (vs[i]'(hsz ▸ hi)) := Array.getElem?_eq_getElem _
      have hd := hall.rowAt hv hr
      generalize vs[i]'(hsz ▸ hi) = v at hv hd
      generalize rs[i] = r at hr hd
      unfold rowDa at hd
      cases hd with
      | @tup T ob vx dx e o z =>
        have hl := z.length
        generalize hvx : vx.toList = l at z hl
        have ev : vx = l.toArray := by rw [← hvx, Array.toArray_toList]
        match l, hl with
        | [u₁, u₂], _ =>
          obtain ⟨t₁, rfl⟩ := DaIn.strInv z.head
          obtain ⟨t₂, rfl⟩ := DaIn.strInv z.tail.head
          exact ⟨T, vx, fun _ => ⟨hv, ⟨ob, e, o⟩, r, t₁, t₂, hr, ev⟩⟩
    · exact ⟨0, #[], fun h => absurd h hi⟩
  obtain ⟨Ts, hTs⟩ := Classical.axiomOfChoice row
  obtain ⟨vals, hrow⟩ := Classical.axiomOfChoice hTs
  unfold Comp2Go
  refine wpAny_pyIter_list hL ?_
  have hTlt : ∀ j, j < rs.length → Ts j < h.objs.size := fun j hj => by obtain ⟨_, ⟨o, ho, _⟩, _⟩ := hrow j hj; exact Heap.lt_size ho
  have kp : ∀ (s₃ : Heap), (∀ b o, b ∉ [h.objs.size] → (h.push { cls := .type "list_iterator", data := .fields #[.ref a, .int 0 0] }).get? b = some o → s₃.get? b = some o) → ∀ b o, h.get? b = some o → s₃.get? b = some o := fun s₃ k b o e =>
    k b o (fun hm => absurd (Heap.lt_size e) (by rw [List.mem_singleton.mp hm]; exact Nat.lt_irrefl _)) (Heap.get?_push_of_some _ e)
  have Wk := (WalksU.listOfTuples (prog := prog) (w := w) hA h.objs.size a (Nat.ne_of_lt hlt) vs Ts vals (fun j hj => (hrow j (hsz ▸ hj)).1) (fun j hj => Nat.ne_of_lt (hTlt j (hsz ▸ hj)))).bound
  rw [hsz] at Wk
  refine ⟨h.objs.size, _, _, _, _, _, rfl, Wk, ?_, by rw [sizeLine_eq]; omega, ⟨⟨_, Heap.get?_push_size _ rfl, rfl, rfl⟩, hL.push _, fun k hk => (hrow k hk).2.1.push _⟩, ?_, ?_, ?_, ?_⟩
  · rintro i vals' ⟨hi, rfl⟩
    obtain ⟨-, -, r, t₁, t₂, -, e⟩ := hrow i hi
    exact ⟨_, _, e⟩
  · intro b hb
    show b < (h.push _).objs.size
    rw [Heap.size_push]
    rcases List.mem_cons.mp hb with rfl | hb
    · exact Nat.lt_succ_self _
    rcases List.mem_cons.mp hb with rfl | hb
    · exact Nat.lt_succ_of_lt hlt
    · obtain ⟨j, hj, rfl⟩ := List.mem_map.mp hb
      exact Nat.lt_succ_of_lt (hTlt j (List.mem_range.mp hj))
  · rintro C i v₁ v₂ ⟨h₃, g₃, d₃, t₃, os₃⟩ m₃ E' hi hP hN h1 h2 k
    exact wpAny_pure ⟨rfl, h₃, t₃, rfl, fun _ _ e => e⟩
  · rintro C i v₁ v₂ ⟨h₃, g₃, d₃, t₃, os₃⟩ m₃ E' hi hP hpv hN h1 h2 k
    obtain ⟨-, -, r, t₁, t₂, hr, e⟩ := hrow i hi
    have e2 := hP.2.trans e
    injection e2 with e2
    injection e2 with e3 e4
    injection e4 with e4 _
    subst e3; subst e4
    exact wpAny_mono (elts C r t₁ t₂ h₃ g₃ d₃ t₃ os₃ m₃ E' (List.mem_of_getElem? hr) hN h1 h2) (fun z s₄ ⟨e, t', es⟩ => ⟨fun r' hr' => by rw [hr] at hr'; cases hr'; exact e, h₃, t', es, fun _ _ e => e⟩) fun _ _ z => z
  · intro D' h' tk ys hnone hpl hpair k
    have kk := kp h' k
    have hn : h.get? D' = none := by
      cases e : h.get? D' with
      | none => rfl
      | some o =>
        replace hnone : (h.push { cls := .type "list_iterator", data := .fields #[.ref a, .int 0 0] }).get? D' = none := hnone
        rw [Heap.get?_push_of_some _ e] at hnone; cases hnone
    have hM2 := hM.grownOwn kk (w := .lst ys) hpl hn
    refine q D' ys h' tk (hM2.with (f := (ys.toList, rs.map out)) fun G g => ?_)
    have e1 : rs.map out = ((List.range rs.length).filter fun _ => true).map fun i => match rs[i]? with | some r => out r | none => .none := by
      rw [List.filter_eq_self.mpr fun _ _ => rfl]
      apply List.ext_getElem?
      intro j
      rw [List.getElem?_map, List.getElem?_map]
      by_cases hj : j < rs.length
      · rw [List.getElem?_range hj, List.getElem?_eq_getElem hj]; simp [hj]
      · rw [List.getElem?_eq_none (by omega), List.getElem?_eq_none (by rw [List.length_range]; omega)]; rfl
    rw [e1]
    refine paired_da hpair fun i z hi hz => ?_
    rw [List.mem_filter, List.mem_range] at hi
    have hr := List.getElem?_eq_getElem hi.1
    rw [hr]
    exact hz _ hr G
end
end Mine
end
section
open PySem PySem.W PySem.Calls PySem.Spec PyProof.Rows
set_option Elab.async false
set_option maxRecDepth 100000
namespace Mine
section
variable {prog : Program} {w : World} {A : Around} {E : Value → Shared → Prop} {K : Frag} {H0 : Heap} {B G₀ : Gr} {L : Addr} {m : Loc} {l : List (Str × Value)} {W W' : Own} {D : Facts} {h : Heap} {g : Array GenState} {d : Drawn} {t : Nat} {os : OsState} {env : Env} {ns : List (Str × NameKind)} {cl : List (Str × Addr)}
abbrev sliceOf (vl vu : Value) : Obj := { cls := .type "slice", data := .fields #[vl, vu, .none] }
/-- a slice is made -/
def MkSl (vl vu : Value) (Q : Value → Shared → Prop) (s₂ : Shared) : Prop := Q (.ref s₂.heap.objs.size) { s₂ with heap := s₂.heap.push (sliceOf vl vu) }
theorem m_slice {M : Model} {s : Shared} {lower upper : Option Expr} {p : Pos} {Q : Value → Shared → Prop}
    (q : wpAny M A (evalPart lower env) (fun vl s₁ => wpAny M A (evalPart upper env) (fun vu s₂ => MkSl vl vu Q s₂) E s₁) E s) : wpAny M A (eval (.Slice lower upper none p) env) Q E s :=
  wpAny_Slice (wpAny_mono q (fun vl s₁ h₁ => wpAny_mono h₁ (fun vu s₂ h₂ => wpAny_pure h₂) fun _ _ e => e) fun _ _ e => e)
theorem m_part0 {M : Model} {Q : Value → Shared → Prop} {s : Shared} (q : Q .none s) : wpAny M A (evalPart none env) Q E s := wpAny_pure q
theorem m_part1 {M : Model} {e : Expr} {Q : Value → Shared → Prop} {s : Shared} (q : wpAny M A (eval e env) Q E s) : wpAny M A (evalPart (some e) env) Q E s := q
theorem m_mksl {vl vu : Value} {Q : Value → Shared → Prop} (hM : Mst H0 B G₀ L m W D h) (q : ∀ a h' t', Mst H0 B G₀ L m W (([.ref a], [.obj (sliceOf vl vu)]) :: D) h' → Q (.ref a) ⟨h', g, d, t', os⟩) : MkSl vl vu Q ⟨h, g, d, t, os⟩ := q _ _ _ (hM.push (sliceOf vl vu) rfl)
/-- a part of a list is cut out -/
theorem m_tailcut {value slice : Expr} {a sl : Addr} {vs us : Array Value} {vl vu : Value} {lo hi : Option Int} {Q : Value → Shared → Prop} (hM : Mst H0 B G₀ L m W D h) (i : LstIn W D a vs) (hsl : ([.ref sl], [.obj (sliceOf vl vu)]) ∈ D) (hsz : vs.size ≤ 100000) (pl : IsPart vl lo) (pu : IsPart vu hi) (e : slicePick vs lo hi none = us)
    (q : ∀ r h' t', Mst H0 B G₀ L m ((r, .lst us) :: W) D h' → Q (.ref r) ⟨h', g, d, t', os⟩)
    (hs : subscripted slice false (.ref a) (.ref sl) = operate [.ref sl, .ref a] (getItem (.ref a) (.ref sl)) := by with_unfolding_all rfl) : wpAny (model prog w) A (subscriptTail value slice (.ref a) (.ref sl)) Q E ⟨h, g, d, t, os⟩ := by
  have hl := hM.lst i
  refine tail_any (s := ⟨h, g, d, t, os⟩) hl.typeIs slot_list_getitem.lookup ?_ hs
  refine wpAny_getItem_list_slice (s := ⟨h, g, d, t, os⟩) hl ⟨_, hM.objAt hsl, rfl, rfl⟩ pl pu .none (by simp) ?_ (by rw [sizeLine_eq]; omega)
  rw [e]
  exact q _ _ _ (hM.make { cls := .type "list", data := .seq us } (w := .lst us) (fun _ e => ⟨_, e⟩) rfl)
theorem seqList {a : Addr} {ds : List Da} (hM : Mst H0 B G₀ L m W D h) (hf : ([.ref a], [.lst ds]) ∈ D) : ∃ (vs : Array Value) (o : Obj), LstO vs o ∧ vs.size = ds.length ∧ Mst H0 B G₀ L m W ((vs.toList, ds) :: ([.ref a], [.obj o]) :: D) h := hM.open hf
end
end Mine
end
section
open PySem PySem.W PySem.Calls PySem.Spec PyProof.Rows PySem.Builtin PySem.Builtin.Str
set_option Elab.async false
set_option maxRecDepth 100000
namespace Mine
set_option maxHeartbeats 0 in
theorem pct_meets {x y : Str} {b : Addr} {t t₁ t₂ : Tok} (hx : x.length ≤ 1000) (hy : y.length ≤ 1000) : Meets («str.__mod__» ⟨[.str ⟨#[37, 115, 58, 32, 37, 115]⟩ t, .ref b], []⟩) (fun _ R s => IsTup s.heap b #[.str x t₁, .str y t₂] ∧ ∀ t' k, R (.ok (.ret (.str (x ++ (⟨#[58, 32]⟩ : Str) ++ y) t'))) { s with toks := k }) := by
  kpt_run
section
variable {prog : Program} {w : World} {A : Around} {E : Value → Shared → Prop} {K : Frag} {H0 : Heap} {B G₀ : Gr} {L : Addr} {m : Loc} {l : List (Str × Value)} {W W' : Own} {D : Facts} {h : Heap} {g : Array GenState} {d : Drawn} {t : Nat} {os : OsState}
/-- a row is written into a text -/
theorem r_pct {x : Str} {r : Row} {u : Tok} {v : Value} {Q : Value → Shared → Prop} (hx : x = ⟨#[37, 115, 58, 32, 37, 115]⟩) (hv : DaIn h.get? v (rowDa r)) (h1 : r.1.length ≤ 1000) (h2 : r.2.length ≤ 1000)
    (q : ∀ t' k, Q (.str (r.1 ++ (⟨#[58, 32]⟩ : Str) ++ r.2) t') ⟨h, g, d, k, os⟩) : wpAny (model prog w) A (binaryOp .Mod (.str x u) v) Q E ⟨h, g, d, t, os⟩ := by
  subst hx
  unfold rowDa at hv
  cases hv with
  | @tup b ob vx dx e o z =>
    have hl := z.length
    generalize hvx : vx.toList = l at z hl
    have ev : vx = l.toArray := by rw [← hvx, Array.toArray_toList]
    match l, hl with
    | [u₁, u₂], _ =>
      obtain ⟨t₁, rfl⟩ := DaIn.strInv z.head
      obtain ⟨t₂, rfl⟩ := DaIn.strInv z.tail.head
      rw [ev] at o
      have ht : (Shared.mk h g d t os).heap.IsTuple b #[.str r.1 t₁, .str r.2 t₂] := ⟨ob, e, o⟩
      have ht' : IsTup (Shared.mk h g d t os).heap b #[.str r.1 t₁, .str r.2 t₂] := ht
      have hT : (Shared.mk h g d t os).TypeIs (.ref b) "tuple" := ⟨ob, e, o.1⟩
      exact KPt.bin_left (T := "str") (U := "tuple") (op := .Mod) (by decide) (typeIs_str _ _ _) hT F.fills_str_mod KPt.fills_tuple F.slot_str_mod
        (call_meets F.slot_str_mod (typeIs_str _ _ _) F.entry_str_mod (F.args_str_mod_2 _ _) (pct_meets h1 h2) ⟨ht', fun t' k => ⟨(fun e => nomatch e), q t' k⟩⟩)
/-- texts of a list are joined -/
theorem strs_of {G : Gr} : ∀ {vs : List Value} {xs : List Str}, DaAll G vs (xs.map Da.str) → ∃ l : List (Str × Tok), strValues l = vs ∧ l.map (·.1) = xs
  | [], [], _ => ⟨[], rfl, rfl⟩
  | [], _ :: _, h => by cases h
  | _ :: _, [], h => by cases h
  | v :: vs, x :: xs, h => by
    obtain ⟨t, rfl⟩ := DaIn.strInv h.head
    obtain ⟨l, rfl, rfl⟩ := strs_of (vs := vs) (xs := xs) h.tail
    exact ⟨(x, t) :: l, rfl, rfl⟩
theorem m_join {x : Str} {u : Tok} {a : Addr} {vs : Array Value} {xs : List Str} {Q : Value → Shared → Prop} (hM : Mst H0 B G₀ L m W D h) (i : LstIn W D a vs) (hf : (vs.toList, xs.map Da.str) ∈ D)
    (hok : (xs.map (·.length)).sum + xs.length * x.length ≤ 16777216) (q : ∀ t' k, Q (.str (Txt.join x xs) t') ⟨h, g, d, k, os⟩) : wpAny (model prog w) A (call (.builtin "str.join") [.str x u, .ref a]) Q E ⟨h, g, d, t, os⟩ := by
  obtain ⟨G, g1, g5⟩ := hM.told
  obtain ⟨l, e1, e2⟩ := strs_of (g5 _ hf)
  refine SC.join (s := ⟨h, g, d, t, os⟩) (l := l) (D := a) ?_ e2 (joinOk_of hok) q
  rw [e1, Array.toArray_toList]
  exact hM.lst i
theorem m_gm_join {x : Str} {u : Tok} {pl : Sem Bool} {Q : Value × List Value → Shared → Prop} (q : Q (.builtin "str.join", [.str x u]) ⟨h, g, d, t, os⟩) : wpAny (model prog w) A (getMethod (.str x u) "join" pl) Q E ⟨h, g, d, t, os⟩ := GM.join q
theorem m_gm_sw {x : Str} {u : Tok} {pl : Sem Bool} {Q : Value × List Value → Shared → Prop} (q : Q (.builtin "str.startswith", [.str x u]) ⟨h, g, d, t, os⟩) : wpAny (model prog w) A (getMethod (.str x u) "startswith" pl) Q E ⟨h, g, d, t, os⟩ := GM.startswith q
theorem m_gm_ew {x : Str} {u : Tok} {pl : Sem Bool} {Q : Value × List Value → Shared → Prop} (q : Q (.builtin "str.endswith", [.str x u]) ⟨h, g, d, t, os⟩) : wpAny (model prog w) A (getMethod (.str x u) "endswith" pl) Q E ⟨h, g, d, t, os⟩ := GM.endswith q
theorem m_gm_find {x : Str} {u : Tok} {pl : Sem Bool} {Q : Value × List Value → Shared → Prop} (q : Q (.builtin "str.find", [.str x u]) ⟨h, g, d, t, os⟩) : wpAny (model prog w) A (getMethod (.str x u) "find" pl) Q E ⟨h, g, d, t, os⟩ := GM.find q
theorem m_gm_split {x : Str} {u : Tok} {pl : Sem Bool} {Q : Value × List Value → Shared → Prop} (q : Q (.builtin "str.split", [.str x u]) ⟨h, g, d, t, os⟩) : wpAny (model prog w) A (getMethod (.str x u) "split" pl) Q E ⟨h, g, d, t, os⟩ := GM.split q
theorem m_sw' {x y : Str} {u v : Tok} {Q : Value → Shared → Prop} (q : Q (.bool (Txt.startswith x y)) ⟨h, g, d, t, os⟩) : wpAny (model prog w) A (call (.builtin "str.startswith") [.str x u, .str y v]) Q E ⟨h, g, d, t, os⟩ := SC.startswith q
theorem m_ew' {x y : Str} {u v : Tok} {Q : Value → Shared → Prop} (q : Q (.bool (Txt.endswith x y)) ⟨h, g, d, t, os⟩) : wpAny (model prog w) A (call (.builtin "str.endswith") [.str x u, .str y v]) Q E ⟨h, g, d, t, os⟩ := SC.endswith q
end
end Mine
end
section
open PySem PySem.W PySem.Calls PySem.Spec PyProof.Rows
set_option Elab.async false
set_option maxRecDepth 100000
namespace Mine
section
variable {prog : Program} {w : World} {A : Around} {E : Value → Shared → Prop} {K : Frag} {H0 : Heap} {B G₀ : Gr} {L : Addr} {m : Loc} {l : List (Str × Value)} {W W₁ W₂ : Own} {D : Facts} {h : Heap} {g : Array GenState} {d : Drawn} {t : Nat} {os : OsState} {env : Env}
abbrev kwDict : Obj := { cls := .type "dict", data := .dict #[] }
/-- a def whose last parameter takes the other named arguments: none -/
theorem m_defK {f : Addr} {name qual : Str} {params : Arguments} {body : List Stmt} {scope : Scope} {dV kV doc pm cdv ct oc : Value} {an od : Option Addr} {osl : Array (Option Value)} {vals : List Value} {front : List (Str × Value)} {kn : Str} {Q : Value → Shared → Prop} {dd uu : Nat}
    (gd : Gd K H0) (hM : Mst H0 B G₀ L m (W₁ ++ W₂) D h) (hA : Rm A (dd + 1) (uu + 3))
    (ho : K.lookup f = some ⟨oc, od, .func (fnOf name qual params body scope dV kV doc pm an cdv ct), osl⟩) (hcd : codeIn K cdv qual = true)
    (hbind : bindArgs (fnOf name qual params body scope dV kV doc pm an cdv ct) ⟨vals, []⟩ = alloc kwDict >>= fun a => pure (front ++ [(kn, .ref a)])) (hloc : front.all (fun y => decide (scope.names.lookup y.1 = some .local)) = true) (hkn : scope.names.lookup kn = some .local)
    (q : ∀ env A' L' B' G' a h' t' (R : Flow → Shared → Prop) E', f < a → EnvIs env L' scope.names [] → Rm A' dd uu → Mst H0 B' G' L' (lk ((kn, .ref a) :: front.reverse)) ((a, .flds []) :: W₂) D h' →
      (∀ v s', Back H0 B G₀ L m W₁ B' G' L' g d os Q v s' → R (.ret v) s') → (∀ s', Back H0 B G₀ L m W₁ B' G' L' g d os Q .none s' → R .next s') →
      wpAny (model prog w) A' (execs body env) R E' ⟨h', g, d, t', os⟩)
    (hco : scope.isCoroutine = false := by rfl) (hgen : scope.isGenerator = false := by rfl) (hk : scope.kind = .function := by rfl)
    (hcell : ∀ x ∈ scope.names, x.2 ≠ .cell := by decide) : wpAny (model prog w) A (call (.ref f) vals) Q E ⟨h, g, d, t, os⟩ := by
  obtain ⟨X, p, loose, mean, mg, mb, T⟩ := gd
  have X' : K.In h := X.keeps hM.low
  refine wpAny_call (codeAny_call_function (fd := fnOf name qual params body scope dV kV doc pm an cdv ct) (body := body) (by have := hA.dp; omega) (X' _ _ ho) rfl hco hgen rfl (codeRec_of X' hcd) ?_)
  rw [hbind]
  refine wpAny_bind (wpAny_alloc (wpAny_pure ?_))
  have hfa : f < h.objs.size := Heap.lt_size (X' _ _ ho)
  have hM1 := (hM.make kwDict (w := .flds []) (fun h₁ e => ⟨_, e, [], 0, rfl, .nil⟩) rfl).perm (W' := W₁ ++ ((h.objs.size, .flds []) :: W₂)) List.perm_middle.symm
  generalize h.objs.size = a at hM1 hfa ⊢
  have hkeep : ∀ b o, h.get? b = some o → (h.push kwDict).get? b = some o := fun b o e => Heap.get?_push_of_some _ e
  generalize h.push kwDict = h1 at hM1 hkeep ⊢
  refine wpAny_newFunctionEnv hcell (fun y hy => ?_) (fun h₁ hns hsb => ⟨(T.nolimit.keeps hM1.low).fresh _ hsb, codeAny_func ?_⟩) hk
  · rcases List.mem_append.mp hy with hy | hy
    · exact of_decide_eq_true (List.all_eq_true.mp hloc y hy)
    · rw [List.mem_singleton.mp hy]; exact hkn
  have hk₁ : ∀ b o, h1.get? b = some o → h₁.get? b = some o := fun b o e => hsb.extBut b o (Nat.ne_of_lt (Heap.lt_size e)) (Heap.get?_push_of_some _ e)
  have hrev : (front ++ [(kn, Value.ref a)]).reverse = (kn, .ref a) :: front.reverse := by simp
  have hns' : NsK h₁ h1.objs.size (lk ((kn, .ref a) :: front.reverse)) := by rw [← hrev]; exact .of hns
  obtain ⟨B', G', hN, back⟩ := hM1.enter (newNone h1) hns' hk₁
  refine wpAny_mono (q (callEnv (fnOf name qual params body scope dV kV doc pm an cdv ct) h1.objs.size f) _ h1.objs.size B' G' a h₁ (t + (front ++ [(kn, Value.ref a)]).length) (fun fl s' => Back H0 B G₀ L m W₁ B' G' h1.objs.size g d os Q (retOf fl) s') (fun _ _ => False) hfa ⟨rfl, rfl, hk, rfl, rfl, rfl⟩ hA.deeper hN (fun _ _ z => z) fun _ z => z) (fun fl s' hs => ?_) fun _ _ z => z.elim
  obtain ⟨m', W', D', h', t', rfl, hM', hq⟩ := hs
  have := hq (back _ _ _ _ hM')
  cases fl <;> exact this
abbrev itemsOf (a : Addr) : Obj := { cls := .type "dict_items", data := .fields #[.ref a] }
theorem Mst.dict0 {a : Addr} (hM : Mst H0 B G₀ L m W D h) (ha : (a, Wo.flds []) ∈ W) : ∃ ep, h.DictAt (PySem.strKind prog w) a [] ep := by
  obtain ⟨⟨o, ho, es, n, rfl, hfl⟩, _⟩ := hM.own _ ha
  cases hfl
  exact ⟨n, _, #[], ho, ⟨rfl, rfl, rfl⟩, rfl, (fun e he => by simp at he), .nil, List.Pairwise.nil⟩
theorem m_gm_items {a : Addr} {pl : Sem Bool} {Q : Value × List Value → Shared → Prop} (hM : Mst H0 B G₀ L m W D h) (ha : (a, Wo.flds []) ∈ W) (q : Q (.builtin "dict.items", [.ref a]) ⟨h, g, d, t, os⟩) :
    wpAny (model prog w) A (getMethod (.ref a) "items" pl) Q E ⟨h, g, d, t, os⟩ := by
  obtain ⟨⟨o, ho, es, n, rfl, hfl⟩, _⟩ := hM.own _ ha
  exact getMethod_builtin (s := ⟨h, g, d, t, os⟩) ⟨_, ho, rfl⟩ F.plainAttrs_dict F.slot_dict_items F.type_dict_items (fun a e => by cases e; exact ⟨_, ho, rfl⟩) q
theorem m_cditems {a : Addr} {Q : Value → Shared → Prop} (hM : Mst H0 B G₀ L m W D h) (ha : (a, Wo.flds []) ∈ W) (hs : (a == sysModules) = false) (q : ∀ v h' t', Mst H0 B G₀ L m W (([.ref v], [.obj (itemsOf a)]) :: D) h' → Q (.ref v) ⟨h', g, d, t', os⟩) :
    wpAny (model prog w) A (call (.builtin "dict.items") [.ref a]) Q E ⟨h, g, d, t, os⟩ := by
  obtain ⟨ep, hd⟩ := hM.dict0 (prog := prog) (w := w) ha
  exact call_meetsIn (s := ⟨h, g, d, t, os⟩) F.slot_dict_items hd.dictOf.typeIs F.entry_dict_items (F.args_dict_items_1 _) (meets_dict_items _ a hs) ⟨⟨_, hd.dictOf⟩, q _ _ _ (hM.push (itemsOf a) rfl)⟩
theorem m_for0 {a v : Addr} {target : Expr} {body : List Stmt} {Q : Flow → Shared → Prop} (hA : A.handled = none) (hM : Mst H0 B G₀ L m W D h) (ha : (a, Wo.flds []) ∈ W) (hv : ([.ref v], [.obj (itemsOf a)]) ∈ D)
    (q : ∀ h' t', Mst H0 B G₀ L m W D h' → Q .next ⟨h', g, d, t', os⟩) :
    wpAny (model prog w) A (pyIter (.ref v)) (fun it s₂ => codeAny (model prog w) A (.forLoop target it body [] env) (fun r s' => match r with | .ok f => Q f s' | .error e => cameBackBy (model prog w) A env E e s') s₂) E ⟨h, g, d, t, os⟩ := by
  obtain ⟨ep, hd⟩ := hM.dict0 (prog := prog) (w := w) ha
  refine wpAny_pyIter_items (s := ⟨h, g, d, t, os⟩) (d := a) ⟨_, hM.objAt hv, rfl, rfl⟩ hd ?_
  let io : Obj := { cls := .type "dict_itemiterator", data := .fields #[.none, .bool false, .ref a, .int 0 0, .int (([] : List (Str × Value)).length) 0, .int ep 0, .none, .none] }
  have hit : (h.push io).get? h.objs.size = some io := Heap.get?_push_size _ rfl
  have hd1 : (h.push io).DictAt (PySem.strKind prog w) a [] ep := hd.push _
  refine codeAny_forLoop_any (fun _ s => s = ⟨h.push io, g, d, t, os⟩) ?_ 0 rfl
  rintro n s rfl
  refine wpAny_pyNext_items_end (s := ⟨h.push io, g, d, t, os⟩) (knd := PySem.strKind prog w) (kvs := []) (i := 0) hA hit hd1 rfl fun h' he => ?_
  exact wpAny_execs_nil (q _ _ (hM.grown fun b o e => he b o (Nat.ne_of_lt (Heap.lt_size e)) (Heap.get?_push_of_some _ e)))
end
end Mine
end
section
open PySem PySem.W PySem.Calls PySem.Spec PyProof.Rows PySem.Builtin PySem.Builtin.Str
set_option Elab.async false
set_option maxRecDepth 100000
namespace Mine
/-- where a text is found within bounds -/
def find4 (x y : Str) (lo hi : Nat) : Int := match occurrences x y lo hi 1 with | i :: _ => (i : Int) | [] => -1
theorem gives_find4 (x y : Str) (lo hi : Nat) (hlo : hi ≤ x.length) (t u v v' : Tok) : Gives («str.find» ⟨[.str x t, .str y u, .int lo v, .int hi v'], []⟩) (.int (find4 x y lo hi)) := by
  show Gives (match occurrences x y (fromIndex x.length lo) (min (fromIndex x.length hi) x.length) 1 with | k :: _ => retInt k | [] => (do rule "str.find.not-found"; retInt (-1))) _
  have e1 : ∀ n : Nat, fromIndex x.length (n : Int) = n := fun n => by
    unfold fromIndex
    rw [if_neg (by omega)]
    omega
  rw [e1, e1, Nat.min_eq_left hlo]
  unfold find4
  cases occurrences x y lo hi 1 with
  | nil => exact .rule (.of_eq rfl)
  | cons k _ => exact .of_eq rfl
theorem strs_da {G : Gr} : ∀ l : List (Str × Tok), DaAll G (strValues l) ((l.map (·.1)).map Da.str)
  | [] => .nil
  | _ :: l => .cons (.str _ _) (strs_da l)
section
variable {prog : Program} {w : World} {A : Around} {E : Value → Shared → Prop} {K : Frag} {H0 : Heap} {B G₀ : Gr} {L : Addr} {m : Loc} {l : List (Str × Value)} {W W' : Own} {D : Facts} {h : Heap} {g : Array GenState} {d : Drawn} {t : Nat} {os : OsState}
theorem m_find4 {x y : Str} {lo hi : Nat} {t₁ t₂ t₃ t₄ : Tok} {Q : Value → Shared → Prop} (hhi : hi ≤ x.length) (q : Q (.int (find4 x y lo hi) t) ⟨h, g, d, t + 1, os⟩) : wpAny (model prog w) A (call (.builtin "str.find") [.str x t₁, .str y t₂, .int lo t₃, .int hi t₄]) Q E ⟨h, g, d, t, os⟩ :=
  call_gives F.slot_str_find (typeIs_str _ _ _) F.entry_str_find (F.args_str_find_4 _ _ _ _) (gives_find4 x y lo hi hhi t₁ t₂ t₃ t₄) q
theorem m_notins {x y : Str} {t₁ t₂ : Tok} {Q : Value → Shared → Prop} (q : Q (.bool (!Txt.contains x y)) ⟨h, g, d, t, os⟩) : wpAny (model prog w) A (compareOp .NotIn (.str y t₁) (.str x t₂)) Q E ⟨h, g, d, t, os⟩ := P.notIn_str q
theorem m_tstr {x : Str} {u : Tok} {Q : Bool → Shared → Prop} (hx : x.length ≤ 1000000) (q : Q (x.length != 0) ⟨h, g, d, t + 1 + 1, os⟩) : wpAny (model prog w) A (truthy (.str x u)) Q E ⟨h, g, d, t, os⟩ := by
  refine PySem.P.truthy_str (s := ⟨h, g, d, t, os⟩) (by omega) ?_
  have e : ((x.length : Int) != 0) = (x.length != 0) := by
    rw [Bool.eq_iff_iff, bne_iff_ne, bne_iff_ne]; omega
  rw [e]; exact q
theorem m_split {x : Str} {u v : Tok} {xs : List Str} {Q : Value → Shared → Prop} (hM : Mst H0 B G₀ L m W D h) (h1 : (decide (x.length < 3) || decide (strKind x < strKind ⟨#[46, 46, 46]⟩)) = false) (hf : (occurrences x ⟨#[46, 46, 46]⟩ 0 x.length (x.length + 1)).isEmpty = false)
    (hp : partsBetween x (occurrences x ⟨#[46, 46, 46]⟩ 0 x.length (x.length + 1)) 3 = xs) (hsz : x.length ≤ 1000000) (hxs : xs.length ≤ 1000)
    (q : ∀ r vs h' t', Mst H0 B G₀ L m ((r, .lst vs) :: W) ((vs.toList, xs.map Da.str) :: D) h' → Q (.ref r) ⟨h', g, d, t', os⟩) :
    wpAny (model prog w) A (call (.builtin "str.split") [.str x u, .str ⟨#[46, 46, 46]⟩ v]) Q E ⟨h, g, d, t, os⟩ := by
  refine call_meets F.slot_str_split (typeIs_str _ _ _) F.entry_str_split (F.args_str_split_2 _ _) (meets_str_split_sep x ⟨#[46, 46, 46]⟩ u v h1 rfl hf (by rw [sizeLine_eq]; omega) (by
    show (partsBetween x _ 3).length ≤ _
    rw [hp, sizeLine_eq]; omega)) ?_
  have e : (partsBetween x (occurrences x ⟨#[46, 46, 46]⟩ 0 x.length (x.length + 1)) (⟨#[46, 46, 46]⟩ : Str).length) = xs := hp
  rw [e]
  show wants Q E _ { (Shared.mk h g d t os) with toks := _, heap := h.push { cls := .type "list", data := .seq (strsFrom t xs).toArray } }
  rw [strsFrom_eq]
  have hM2 := hM.make { cls := .type "list", data := .seq (strValues (numbered t xs)).toArray } (w := .lst (strValues (numbered t xs)).toArray) (fun _ e => ⟨_, e⟩) rfl
  refine q _ _ _ _ (hM2.with fun G _ => ?_)
  have ht := strs_da (G := G) (numbered t xs)
  rw [numbered_texts] at ht
  exact ht
theorem m_isub {a b : Int} {u v : Tok} {Q : Value → Shared → Prop} (q : Q (.int (a - b) t) ⟨h, g, d, t + 1, os⟩) : wpAny (model prog w) A (inplaceOp .Sub (.int a u) (.int b v)) Q E ⟨h, g, d, t, os⟩ := isub_int q
theorem m_dell {a : Addr} {vs us : Array Value} {k : Int} {j : Nat} {u : Tok} {Q : Unit → Shared → Prop} (hM : Mst H0 B G₀ L m W D h) (up : WUp a (.lst vs) (.lst us) W W') (hfit : Builtin.List.listFitsIndex k = true) (hj : seqIndex? k vs.size = some j) (hu : vs.eraseIdxIfInBounds j = us) (hsz : vs.size ≤ 1000)
    (q : ∀ h' t', Mst H0 B G₀ L m W' D h' → Q () ⟨h', g, d, t', os⟩) : wpAny (model prog w) A (delItem (.ref a) (.int k u)) Q E ⟨h, g, d, t, os⟩ := by
  obtain ⟨⟨n, hn⟩, _⟩ := hM.own _ up.mem
  refine wpAny_delItem_plain (s := ⟨h, g, d, t, os⟩) ⟨n, hn⟩ hfit hj (fun h' hl hs => q h' t (hM.up up ?_ fun b o hb e => (hs.2 b hb).trans e)) (by rw [sizeLine_eq]; omega)
  rw [hu] at hl
  exact hl
/-- an item of a list, from the front or from the back -/
theorem m_itemx {value slice : Expr} {a : Addr} {vs : Array Value} {ds : List Da} {e : Da} {k : Int} {u : Tok} (j : Nat) {Q : Value → Shared → Prop} (hM : Mst H0 B G₀ L m W D h) (i : LstIn W D a vs) (hf : (vs.toList, ds) ∈ D) (hlo : -(2 ^ 63) ≤ k) (hhi : k < 2 ^ 63) (hj : seqIndex? k ds.length = some j) (hx : ds[j]? = some e)
    (q : ∀ v, Mst H0 B G₀ L m W (([v], [e]) :: D) h → Q v ⟨h, g, d, t, os⟩)
    (hs : subscripted slice false (.ref a) (.int k u) = operate [.ref a, .int k u] (getItem (.ref a) (.int k u)) := by with_unfolding_all rfl) : wpAny (model prog w) A (subscriptTail value slice (.ref a) (.int k u)) Q E ⟨h, g, d, t, os⟩ := by
  have ht := hM.lst i
  have hsz : vs.size = ds.length := by simpa using hM.has hf
  obtain ⟨v, hv, hM'⟩ := hM.nth hf hx
  have hq := q v hM'
  rw [Array.getElem?_toList] at hv
  refine tail_any (s := ⟨h, g, d, t, os⟩) ht.typeIs slot_list_getitem.lookup ?_ hs
  unfold seqIndex? at hj
  dsimp only at hj
  by_cases hk : k < 0
  · rw [if_pos hk] at hj
    split at hj
    · rename_i hc
      cases hj
      rw [Bool.and_eq_true, decide_eq_true_eq, decide_eq_true_eq] at hc
      exact wpAny_getItem_list_neg (s := ⟨h, g, d, t, os⟩) ht hk (by rw [hsz]; omega) hlo (by rw [hsz]; exact hv) hq
    · cases hj
  · rw [if_neg hk] at hj
    split at hj
    · cases hj
      exact wpAny_getItem_list (s := ⟨h, g, d, t, os⟩) ht (by omega) hhi hv hq
    · cases hj
end
end Mine
end
section
open PySem PySem.W PySem.Calls PySem.Spec PyProof.Rows PySem.Builtin PySem.Builtin.Str
set_option Elab.async false
set_option maxRecDepth 100000
namespace Mine
theorem foldl_rep (c : Nat) : ∀ (k : Nat) (a : Array Nat), (List.replicate k #[c]).foldl (· ++ ·) a = a ++ (List.replicate k c).toArray
  | 0, a => by simp
  | k + 1, a => by
    rw [List.replicate_succ, List.foldl_cons, foldl_rep c k, List.replicate_succ]
    apply Array.ext'
    simp
theorem mul_one (c : Nat) (k : Nat) : Txt.mul ⟨#[c]⟩ (k : Int) = ⟨(List.replicate k c).toArray⟩ := by
  unfold Txt.mul
  by_cases h1 : (k : Int) < 1
  · have : k = 0 := by omega
    subst this
    rw [if_pos h1]; rfl
  · rw [if_neg h1]
    by_cases h2 : k = 1
    · subst h2; rfl
    · have e : (((k : Int) == 1) || ((⟨#[c]⟩ : Str).length == 0)) = false := by
        rw [Bool.or_eq_false_iff]
        refine ⟨beq_eq_false_iff_ne.mpr (by omega), rfl⟩
      rw [e, if_neg (by decide), Int.toNat_natCast, foldl_rep]
      simp
theorem app_rep (l k : List Nat) : (⟨l.toArray⟩ : Str) ++ (⟨k.toArray⟩ : Str) = ⟨(l ++ k).toArray⟩ := by
  show (⟨l.toArray ++ k.toArray⟩ : Str) = _
  rw [List.append_toArray]
theorem n_fdiv (a b : Nat) : (a : Int).fdiv (b : Int) = ((a / b : Nat) : Int) := (Int.ofNat_fdiv a b).symm
theorem n_fmod (a b : Nat) : (a : Int).fmod (b : Int) = ((a % b : Nat) : Int) := (Int.ofNat_fmod a b).symm
section
variable {prog : Program} {w : World} {A : Around} {E : Value → Shared → Prop} {h : Heap} {g : Array GenState} {d : Drawn} {t : Nat} {os : OsState}
theorem m_muls {x : Str} {c k : Nat} {z : Int} {u v : Tok} {Q : Value → Shared → Prop} (hx : x = ⟨#[c]⟩) (hz : z = (k : Int)) (hk : k ≤ 1000) (q : ∀ t' tk, Q (.str ⟨(List.replicate k c).toArray⟩ t') ⟨h, g, d, tk, os⟩) :
    wpAny (model prog w) A (binaryOp .Mult (.str x u) (.int z v)) Q E ⟨h, g, d, t, os⟩ := by
  subst hx; subst hz
  refine SB.mul (s := ⟨h, g, d, t, os⟩) ⟨?_, fun h1 _ => ?_, fun h1 _ => ?_⟩ fun t' tk => ?_
  · rw [Bool.or_eq_false_iff, decide_eq_false_iff_not, decide_eq_false_iff_not]; omega
  · show ¬ (((1 : Nat) : Int) > (2 ^ 63 - 1) / (k : Int))
    have : (1 : Int) ≤ (2 ^ 63 - 1) / (k : Int) := Int.le_ediv_of_mul_le (by omega) (by omega)
    omega
  · show tooLong ((⟨#[c]⟩ : Str).length * (k : Int).toNat) = false
    have e : (⟨#[c]⟩ : Str).length = 1 := rfl
    rw [e]
    unfold tooLong
    rw [decide_eq_false_iff_not, sizeLine_eq]; omega
  · rw [mul_one]; exact q _ _
theorem m_sign {value slice : Expr} {x : Str} {z : Int} {k : Nat} {u v : Tok} {y : Str} {Q : Value → Shared → Prop} (hz : z = (k : Int)) (hk : k < x.length) (hx : x.length ≤ 1000) (hy : Txt.item x (k : Int) = y) (q : Q (.str y t) ⟨h, g, d, t + 1, os⟩)
    (hs : subscripted slice false (.str x u) (.int z v) = operate [.str x u, .int z v] (getItem (.str x u) (.int z v)) := by with_unfolding_all rfl)
    (ht : ∀ r, letTemporaryGo value (.str x u) r = pure () := by intro _; with_unfolding_all rfl) : wpAny (model prog w) A (subscriptTail value slice (.str x u) (.int z v)) Q E ⟨h, g, d, t, os⟩ := by
  subst hz; subst hy
  exact item_str (s := ⟨h, g, d, t, os⟩) (fitsSsize_of (N := 9223372036854775808) (by omega) (by omega) (Int.le_refl _)) (by omega) (by omega) (fun _ => q) hs ht
end
end Mine
end
section
open PySem PySem.W PySem.Calls PySem.Spec PyProof.Rows
set_option Elab.async false
set_option maxRecDepth 100000
namespace Mine
section
variable {prog : Program} {w : World} {A : Around} {E : Value → Shared → Prop} {K : Frag} {H0 : Heap} {B G₀ : Gr} {L : Addr} {m : Loc} {l : List (Str × Value)} {W W' : Own} {D : Facts} {h : Heap} {g : Array GenState} {d : Drawn} {t : Nat} {os : OsState} {env : Env}
theorem DaIn.intInv {G : Gr} {v : Value} {x : Int} (h : DaIn G v (.int x)) : ∃ t, v = .int x t := by
  cases h with
  | int _ t => exact ⟨t, rfl⟩
/-- over two lists of numbers side by side -/
theorem m_c2zip {elt : Expr} {x y : Str} {ifs : List Expr} {scope : Scope} {clc : List (Str × Addr)} {a b : Addr} {ns ks : List Nat} {p : Nat → Bool} {o : Nat → Da} {Q : Value → Shared → Prop} (hA : A.handled = none) (hM : Mst H0 B G₀ L m W D h)
    (ha : ([.ref a], [.lst (ns.map fun (n : Nat) => Da.int (n : Int))]) ∈ D) (hb : ([.ref b], [.lst (ks.map fun (n : Nat) => Da.int (n : Int))]) ∈ D) (hlen : ns.length ≤ 1000) (hkl : ks.length = ns.length)
    (tests : ∀ C i n k t₁ t₂ (h₃ : Heap) g₃ d₃ t os₃ m₃ E', ns[i]? = some n → ks[i]? = some k → h₃.Ns C m₃ → m₃ x = some (.int (n : Nat) t₁) → m₃ y = some (.int (k : Nat) t₂) →
      wpAny (model prog w) A (forIn ifs true fun c r => if r = true then do let ok ← isTrue c (compEnvC scope clc C env) (eval c (compEnvC scope clc C env)); pure (ForInStep.yield ok) else pure (ForInStep.yield r)) (fun ok s₄ => ok = p i ∧ ∃ t', s₄ = ⟨h₃, g₃, d₃, t', os₃⟩) E' ⟨h₃, g₃, d₃, t, os₃⟩)
    (elts : ∀ C i n k t₁ t₂ (h₃ : Heap) g₃ d₃ t os₃ m₃ E', ns[i]? = some n → ks[i]? = some k → h₃.Ns C m₃ → m₃ x = some (.int (n : Nat) t₁) → m₃ y = some (.int (k : Nat) t₂) →
      wpAny (model prog w) A (eval elt (compEnvC scope clc C env)) (fun z s₄ => (∀ G : Gr, DaIn G z (o i)) ∧ ∃ t', s₄ = ⟨h₃, g₃, d₃, t', os₃⟩) E' ⟨h₃, g₃, d₃, t, os₃⟩)
    (q : ∀ r ys h' t', Mst H0 B G₀ L m ((r, .lst ys) :: W) ((ys.toList, ((List.range ns.length).filter p).map o) :: D) h' → Q (.ref r) ⟨h', g, d, t', os⟩) :
    wpAny (model prog w) A (call (.type "zip") [.ref a, .ref b]) (fun xv s₁ => Comp2Go prog w A env scope clc x y ifs elt ns.length p (fun i z => ∀ G : Gr, DaIn G z (o i)) Q E xv s₁) E ⟨h, g, d, t, os⟩ := by
  obtain ⟨G, gh, gf⟩ := hM.told
  obtain ⟨vs, hl1, -, -, hs1, hM1⟩ := hM.items ha
  obtain ⟨us, hl2, -, -, hs2, hM2⟩ := hM1.items (.tail _ hb)
  obtain ⟨G', gh', gf'⟩ := hM2.told
  have all1 : DaAll h.get? vs.toList (ns.map fun (n : Nat) => Da.int (n : Int)) := (gf' _ (.tail _ (.head _))).mono gh'
  have all2 : DaAll h.get? us.toList (ks.map fun (n : Nat) => Da.int (n : Int)) := (gf' _ (.head _)).mono gh'
  clear hM1 hM2 gf'
  rw [List.length_map] at hs1 hs2
  have la : a < h.objs.size := by obtain ⟨o, ho, _⟩ := hl1; exact Heap.lt_size ho
  have lb : b < h.objs.size := by obtain ⟨o, ho, _⟩ := hl2; exact Heap.lt_size ho
  refine call_zip_2 (s := ⟨h, g, d, t, os⟩) hl1 hl2 fun h' hz hTI hTO hi1 hi2 hsz hk => ?_
  unfold Comp2Go
  refine wpAny_pyIter_zip (s := ⟨h', g, d, t, os⟩) hz ?_
  have hk' : ∀ c o, h.get? c = some o → h'.get? c = some o := hk
  have ap' : ∀ S p q : Nat, p < S → q < S → ZipApart (S + 4) (S + 2) (S + 3) S (S + 1) p q := fun S p q h1 h2 => by
    constructor <;> (intro e) <;> (replace e : (_ : Nat) = _ := e) <;> omega
  have ap := ap' h.objs.size a b la lb
  have Wk := (WalksT.zip2 (prog := prog) (w := w) hA (h.objs.size + 4) (h.objs.size + 2) (h.objs.size + 3) h.objs.size (h.objs.size + 1) a b ap vs us).toU
  have emin : min vs.size us.size = ns.length := by rw [hs1, hs2, hkl, Nat.min_self]
  rw [emin] at Wk
  have vals : ∀ (i : Nat) (v₁ v₂ : Value), (∃ x y : Value, vs[i]? = some x ∧ us[i]? = some y ∧ (#[v₁, v₂] : Array Value) = #[x, y]) → ∃ n k t₁ t₂, ns[i]? = some n ∧ ks[i]? = some k ∧ v₁ = .int (n : Nat) t₁ ∧ v₂ = .int (k : Nat) t₂ := by
    rintro i v₁ v₂ ⟨x', y', h1, h2, e⟩
    injection e with e
    injection e with e1 e2
    injection e2 with e2 _
    subst e1; subst e2
    have hi : i < ns.length := by rw [← hs1]; exact (Array.getElem?_eq_some_iff.mp h1).1
    have hr := List.getElem?_eq_getElem hi
    have hr2 : ks[i]? = some (ks[i]'(hkl ▸ hi)) := List.getElem?_eq_getElem _
    obtain ⟨t₁, e1⟩ := DaIn.intInv (all1.rowAt (enc := fun (n : Nat) => Da.int (n : Int)) h1 hr)
    obtain ⟨t₂, e2⟩ := DaIn.intInv (all2.rowAt (enc := fun (n : Nat) => Da.int (n : Int)) h2 hr2)
    exact ⟨_, _, t₁, t₂, hr, hr2, e1, e2⟩
  have off : ∀ c, c < h.objs.size → c ∉ [h.objs.size + 4, h.objs.size + 3, h.objs.size, h.objs.size + 1] := fun c hc hm => by
    simp at hm; omega
  refine ⟨h.objs.size + 4, _, _, _, _, _, rfl, Wk, ?_, by rw [sizeLine_eq]; omega, ⟨hz, hTI, ⟨_, _, hTO⟩, hi1, hi2, hl1.at fun o e => hk' _ o e, hl2.at fun o e => hk' _ o e⟩, ?_, ?_, ?_, ?_⟩
  · rintro i vals' ⟨x', y', -, -, rfl⟩
    exact ⟨_, _, rfl⟩
  · intro c hc
    show c < h'.objs.size
    have : h'.objs.size = h.objs.size + 5 := hsz
    rw [this]
    have key : ∀ S c p q : Nat, p < S → q < S → (c = S + 4 ∨ c = S + 2 ∨ c = S + 3 ∨ c = S ∨ c = S + 1 ∨ c = p ∨ c = q) → c < S + 5 := fun S c p q h1 h2 h3 => by omega
    simp only [List.mem_cons, List.not_mem_nil, or_false] at hc
    exact key _ _ _ _ la lb hc
  · rintro C i v₁ v₂ ⟨h₃, g₃, d₃, t₃, os₃⟩ m₃ E' hi hP hN h1 h2 k
    obtain ⟨n, kk, t₁, t₂, e1, e2, rfl, rfl⟩ := vals i v₁ v₂ hP
    exact wpAny_mono (tests C i n kk t₁ t₂ h₃ g₃ d₃ t₃ os₃ m₃ E' e1 e2 hN h1 h2) (fun ok s₄ ⟨e, t', es⟩ => ⟨e, h₃, t', es, fun _ _ e => e⟩) fun _ _ z => z
  · rintro C i v₁ v₂ ⟨h₃, g₃, d₃, t₃, os₃⟩ m₃ E' hi hP hpv hN h1 h2 k
    obtain ⟨n, kk, t₁, t₂, e1, e2, rfl, rfl⟩ := vals i v₁ v₂ hP
    exact wpAny_mono (elts C i n kk t₁ t₂ h₃ g₃ d₃ t₃ os₃ m₃ E' e1 e2 hN h1 h2) (fun z s₄ ⟨e, t', es⟩ => ⟨e, h₃, t', es, fun _ _ e => e⟩) fun _ _ z => z
  · intro D' h'' tk ys hnone hpl hpair k
    have kk : ∀ b o, h.get? b = some o → h''.get? b = some o := fun b o e => k b o (off b (Heap.lt_size e)) (hk' b o e)
    have hn : h.get? D' = none := by
      cases e : h.get? D' with
      | none => rfl
      | some o =>
        replace hnone : h'.get? D' = none := hnone
        rw [hk' _ _ e] at hnone; cases hnone
    have hM2 := hM.grownOwn kk (w := .lst ys) hpl hn
    exact q D' ys h'' tk (hM2.with (f := (ys.toList, ((List.range ns.length).filter p).map o)) fun G _ => paired_da hpair fun i z _ hz => hz G)
/-- not in a list, inside a comprehension -/
theorem r_notin {v u : Value} {d₁ : Da} {ds : List Da} {Q : Value → Shared → Prop} {dd : Nat} (hA : Rm A dd 5) (h₁ : DaIn h.get? v d₁) (h₂ : DaIn h.get? u (.lst ds)) (c₁ : Cm d₁) (c₂ : Cm (.lst ds)) (q : Q (.bool (!(Da.pys ds).any fun y => PyData.eqv y d₁.py)) ⟨h, g, d, t, os⟩) :
    wpAny (model prog w) A (compareOp .NotIn v u) Q E ⟨h, g, d, t, os⟩ := by
  obtain ⟨_, r₁⟩ := h₁.reads (fun _ _ e => e) c₁.pl
  obtain ⟨_, r₂⟩ := h₂.reads (fun _ _ e => e) c₂.pl
  have hl : (Da.lst ds).py = .list (Da.pys ds) := by rw [Da.py]
  rw [hl] at r₂
  have c₂' := c₂.lay
  rw [hl, PyData.canLay0] at c₂'
  exact SeqAt.notIn_list_reads (s := ⟨h, g, d, t, os⟩) r₂ r₁ c₂' c₁.lay (by have := hA.un; have := c₁.dep; have := Nat.min_le_right (PyData.depthAll (Da.pys ds)) d₁.py.depth; omega) q
end
end Mine
end
section
open PySem PySem.W PySem.Calls PySem.Spec PyProof.Rows
set_option Elab.async false
set_option maxRecDepth 100000
namespace Mine
section
variable {prog : Program} {w : World} {A : Around} {E : Value → Shared → Prop} {K : Frag} {H0 : Heap} {B G₀ : Gr} {L : Addr} {m : Loc} {l : List (Str × Value)} {W W₁ W₂ : Own} {D : Facts} {h : Heap} {g : Array GenState} {d : Drawn} {t : Nat} {os : OsState} {env : Env} {ns : List (Str × NameKind)} {cl : List (Str × Addr)}
/-- a def two of whose names are held for what it holds inside -/
theorem m_defC2 {f : Addr} {name qual : Str} {params : Arguments} {body : List Stmt} {scope : Scope} {dV kV doc pm cdv ct oc : Value} {an od : Option Addr} {osl : Array (Option Value)} {vals : List Value} {binds lbinds : List (Str × Value)} {cn cn' : Str} {cv : Option Value} {Q : Value → Shared → Prop} {dd uu : Nat}
    (gd : Gd K H0) (hM : Mst H0 B G₀ L m (W₁ ++ W₂) D h) (hA : Rm A (dd + 1) (uu + 3))
    (ho : K.lookup f = some ⟨oc, od, .func (fnOf name qual params body scope dV kV doc pm an cdv ct), osl⟩) (hcd : codeIn K cdv qual = true)
    (hbind : bindArgs (fnOf name qual params body scope dV kV doc pm an cdv ct) ⟨vals, []⟩ = pure binds) (hclo : (fnOf name qual params body scope dV kV doc pm an cdv ct).closure = [])
    (hcs : ∀ n, cellsFrom n scope.names [] = [(cn', n + 1), (cn, n)]) (hcc : (cn == cn') = false)
    (hkind : binds.all (fun y => decide (scope.names.lookup y.1 = some .local) || (decide (scope.names.lookup y.1 = some .cell) && y.1 == cn)) = true)
    (hlb : Kn (bindL (fun x => scope.names.lookup x) binds fun _ => none) lbinds) (hcv : bindC (fun x => scope.names.lookup x) binds (fun _ => none) cn = cv) (hcv' : bindC (fun x => scope.names.lookup x) binds (fun _ => none) cn' = none)
    (q : ∀ env A' L' c c' B' G' h' t' (R : Flow → Shared → Prop) E', EnvIs env L' scope.names [(cn', c'), (cn, c)] → Rm A' dd uu → Mst H0 B' G' L' (lk lbinds) ((c, .cell cv) :: (c', .cell none) :: W₂) D h' →
      (∀ v s', Back H0 B G₀ L m W₁ B' G' L' g d os Q v s' → R (.ret v) s') → (∀ s', Back H0 B G₀ L m W₁ B' G' L' g d os Q .none s' → R .next s') →
      wpAny (model prog w) A' (execs body env) R E' ⟨h', g, d, t', os⟩)
    (hco : scope.isCoroutine = false := by rfl) (hgen : scope.isGenerator = false := by rfl) (hk : scope.kind = .function := by rfl) : wpAny (model prog w) A (call (.ref f) vals) Q E ⟨h, g, d, t, os⟩ := by
  obtain ⟨X, p, loose, mean, mg, mb, T⟩ := gd
  have X' : K.In h := X.keeps hM.low
  refine wpAny_call (codeAny_call_cells (fd := fnOf name qual params body scope dV kV doc pm an cdv ct) (body := body) (binds := binds) (by have := hA.dp; omega) (X' _ _ ho) rfl (T.nolimit.keeps hM.low) (codeRec_of X' hcd) rfl hbind hclo (fun y hy => ?_) (fun s₁ x => ?_) hco hgen hk)
  · have := List.all_eq_true.mp hkind y hy
    rw [Bool.or_eq_true, Bool.and_eq_true, decide_eq_true_eq, decide_eq_true_eq, beq_iff_eq] at this
    rcases this with h1 | ⟨h1, h2⟩
    · exact .inl h1
    · refine .inr ⟨h1, ?_⟩
      show ((cellsFrom _ scope.names []).lookup y.1).isSome = true
      rw [hcs, h2, List.lookup_cons, hcc, List.lookup_cons, beq_self_eq_true]; rfl
  · obtain ⟨h', tk, rfl, hkeep⟩ := x.done
    have hcells : (callEnvC (fnOf name qual params body scope dV kV doc pm an cdv ct) h.objs.size f).cells = [(cn', h.objs.size + 1 + 1), (cn, h.objs.size + 1)] := hcs _
    have hc := x.cell cn (h.objs.size + 1) (by rw [hcells, List.lookup_cons, hcc, List.lookup_cons, beq_self_eq_true])
    have hc2 := x.cell cn' (h.objs.size + 1 + 1) (by rw [hcells, List.lookup_cons, beq_self_eq_true])
    have hns : NsK h' h.objs.size (lk lbinds) := ⟨_, x.toInCall.ns, fun y v hy => Kn.all hlb (y, v) (lk_some hy)⟩
    have hnone : ∀ k, h.objs.size ≤ k → h.get? k = none := fun k hk => by
      cases e : h.get? k with
      | none => rfl
      | some o => exact absurd (Heap.lt_size e) (Nat.not_lt.mpr hk)
    have n1 := hnone (h.objs.size + 1) (Nat.le_succ _)
    have n2 := hnone (h.objs.size + 1 + 1) (Nat.le_succ_of_le (Nat.le_succ _))
    have hcv1 : bindC (callEnvC (fnOf name qual params body scope dV kV doc pm an cdv ct) h.objs.size f).kindOf binds (fun _ => none) cn = cv := hcv
    rw [hcv1] at hc
    have hcv2 : bindC (callEnvC (fnOf name qual params body scope dV kV doc pm an cdv ct) h.objs.size f).kindOf binds (fun _ => none) cn' = none := hcv'
    rw [hcv2] at hc2
    have nd := hM.nd
    rw [List.map_append, List.nodup_append] at nd
    have off : ∀ k, h.get? k = none → k ∉ W₂.map (·.1) := fun k hk hm => by
      obtain ⟨p, hp, e⟩ := List.mem_map.mp hm
      obtain ⟨ob, hob⟩ := (hM.own p (List.mem_append.mpr (.inr hp))).1.some
      rw [e, hk] at hob; cases hob
    obtain ⟨B', G', hN, back⟩ := hM.enterC (m₁ := lk lbinds) (newNone h) hns hkeep [(h.objs.size + 1, .cell cv), (h.objs.size + 1 + 1, .cell none)] (fun p hp => by
      rcases List.mem_cons.mp hp with rfl | hp
      · exact ⟨hc, n1, Nat.succ_ne_self _⟩
      · rw [List.mem_singleton.mp hp]; exact ⟨hc2, n2, Nat.ne_of_gt (Nat.lt_succ_of_lt (Nat.lt_succ_self _))⟩) (by
      show ((h.objs.size + 1) :: (h.objs.size + 1 + 1) :: W₂.map (·.1)).Nodup
      rw [List.nodup_cons, List.nodup_cons]
      refine ⟨fun hm => ?_, off _ n2, nd.2.1⟩
      rcases List.mem_cons.mp hm with e | hm
      · exact absurd e (Nat.ne_of_lt (Nat.lt_succ_self _))
      · exact off _ n1 hm)
    refine wpAny_mono (q (callEnvC (fnOf name qual params body scope dV kV doc pm an cdv ct) h.objs.size f) _ h.objs.size (h.objs.size + 1) (h.objs.size + 1 + 1) B' G' h' tk (fun fl s' => Back H0 B G₀ L m W₁ B' G' h.objs.size g d os Q (retOf fl) s') (fun _ _ => False) ⟨rfl, rfl, hk, rfl, hcells, rfl⟩ hA.deeper hN (fun _ _ z => z) fun _ z => z) (fun fl s' hs => ?_) fun _ _ z => z.elim
    obtain ⟨m', W', D', h', t', rfl, hM', hq⟩ := hs
    exact hq (back _ _ _ _ hM')
end
end Mine
end
section
open PySem PySem.W PySem.Calls PySem.Spec PyProof.Rows
set_option Elab.async false
set_option maxRecDepth 100000
namespace Mine
theorem swaps_cell {env : Env} {L : Addr} {ns : List (Str × NameKind)} {cl : List (Str × Addr)} {elt : Expr} {gens : List Comprehension} {scope : Scope} {pos px : Pos} {tn : Str} {line : Nat} (hE : EnvIs env L ns cl) (hk : ns.lookup tn = some .cell) :
    swapsWith (.ListComp elt gens scope pos) (some (.Name tn px)) line env = pure false := by
  unfold swapsWith
  dsimp only
  have e : env.kindOf tn = some .cell := by unfold Env.kindOf; rw [hE.names]; exact hk
  rw [e]
  have e2 : ((some NameKind.cell : Option NameKind) == some NameKind.local) = false := by decide
  rw [e2, Bool.and_false, Bool.false_and, Bool.false_and]
theorem swaps_local {env : Env} {L : Addr} {ns : List (Str × NameKind)} {cl : List (Str × Addr)} {elt : Expr} {gens : List Comprehension} {scope : Scope} {pos px : Pos} {tn : Str} {line : Nat} (hE : EnvIs env L ns cl) (hk : ns.lookup tn = some .local)
    (hl : (px.line == pos.line) = true) (hn : (scope.names.any fun (n, k) => n == tn && (k == .local || k == .cell)) = false) : swapsWith (.ListComp elt gens scope pos) (some (.Name tn px)) line env = pure true := by
  unfold swapsWith
  dsimp only
  have e : env.kindOf tn = some .local := by unfold Env.kindOf; rw [hE.names]; exact hk
  rw [e]
  have e2 : ((some NameKind.local : Option NameKind) == some NameKind.local) = true := by decide
  have e3 : (env.blockKind == .function) = true := by unfold Env.blockKind; rw [hE.kind]; rfl
  have e4 : (px.line == (Expr.ListComp elt gens scope pos).pos.line) = true := hl
  rw [e2, e3, e4, hn]; rfl
section
variable {prog : Program} {w : World} {A : Around} {E : Value → Shared → Prop} {K : Frag} {H0 : Heap} {B G₀ : Gr} {L : Addr} {m m' : Loc} {l : List (Str × Value)} {W W' : Own} {D : Facts} {h : Heap} {g : Array GenState} {d : Drawn} {t : Nat} {os : OsState} {env : Env} {ns : List (Str × NameKind)} {cl : List (Str × Addr)}
theorem m_asgc {M : Model} {x : Str} {px pos : Pos} {value : Expr} {Q : Flow → Shared → Prop} (hs : swapsWith value (some (.Name x px)) pos.line env = pure false) (q : wpAny M A (eval value env) (fun v s₁ => wpAny M A (storeName env x v) (fun _ => Q .next) E s₁) E ⟨h, g, d, t, os⟩) :
    wpAny M A (exec (.Assign [.Name x px] value pos) env) Q E ⟨h, g, d, t, os⟩ := wpAny_Assign_Name q hs
theorem Mst.madeOwnN (hM : Mst H0 B G₀ L m W D h) {h' : Heap} {a : Addr} {w : Wo} (kb : ∀ b o, b ≠ L → h.get? b = some o → h'.get? b = some o) (kn : NsK h' L m') (hw : WoAt h' a w) (hn : h.get? a = none) : Mst H0 B G₀ L m' ((a, w) :: W) D h' := by
  refine hM.next (fun _ => none) kn (fun b o hb _ e => kb b o hb e) (fun p hp => ?_) ?_ (fun _ _ e => by cases e) fun _ g _ => g
  · rcases List.mem_cons.mp hp with rfl | hp
    · exact ⟨hw, rfl, .inr hn⟩
    · exact ⟨(hM.own p hp).1.at fun o e => kb _ o (hM.own p hp).2.2 e, rfl, .inl ⟨p, hp, rfl⟩⟩
  · rw [List.map_cons, List.nodup_cons]
    refine ⟨fun hm => ?_, hM.nd⟩
    obtain ⟨p, hp, e⟩ := List.mem_map.mp hm
    obtain ⟨ob, ho⟩ := (hM.own p hp).1.some
    rw [e, hn] at ho; cases ho
/-- a comprehension whose list a name takes in it -/
def CompGoA (prog : Program) (w : World) (A : Around) (env : Env) (scope : Scope) (cl : List (Str × Addr)) (x y : Str) (ifs : List Expr) (elt : Expr) (p : Value → Bool) (F : Value → Value → Prop) (Q : Flow → Shared → Prop) (E : Value → Shared → Prop) (xv : Value) (s₁ : Shared) : Prop :=
  wpAny (model prog w) A (pyIter xv) (fun it s₂ => ∃ I fp wr n P St m, it = .ref I ∧ Walks prog w A I fp wr n P St ∧ n ≤ sizeLine ∧ St 0 s₂.heap ∧ (∀ b ∈ fp, b < s₂.heap.objs.size) ∧
      env.locals ∉ wr ∧ s₂.heap.Ns env.locals m ∧ QuietOnC prog w A env scope cl x ifs elt wr P p F s₂ ∧
      (∀ D h' tk ys (vs : List Value), s₂.heap.get? D = none → h'.IsList D ys → h'.PlainList D ys → vs.length = n → (∀ j v, vs[j]? = some v → P j v) → Paired F (vs.filter p) ys.toList →
        h'.Ns env.locals (fun z => if z = y then some (.ref D) else m z) → (∀ b o, b ≠ env.locals → b ∉ wr → s₂.heap.get? b = some o → h'.get? b = some o) → Q .next { s₂ with heap := h', toks := tk })) E s₁
theorem m_asgcomp {elt iter : Expr} {x y : Str} {px py : Pos} {ifs : List Expr} {scope : Scope} {clc : List (Str × Addr)} {pos spos : Pos} {vs : Array Value} {rs : List Row} {Q : Flow → Shared → Prop} (test : Row → Bool) (out : Row → Da) (hE : EnvIs env L ns cl) (hM : Mst H0 B G₀ L m W D h)
    (hf : (vs.toList, rs.map rowDa) ∈ D) (hclos : closureFor scope env = pure clc) (hy : ns.lookup y = some .local) (hsl : (py.line == pos.line) = true) (hsn : (scope.names.any fun (n, k) => n == y && (k == .local || k == .cell)) = false)
    (q : ∀ p F, PF rowDa vs rs test out p F → wpAny (model prog w) A (eval iter env) (fun xv s₁ => CompGoA prog w A env scope clc x y ifs elt p F Q E xv s₁) E ⟨h, g, d, t, os⟩)
    (hcell : ∀ y ∈ scope.names, y.2 ≠ .cell := by decide) (hkind : scope.kind = .function := by rfl) (hnames : ∀ y ∈ scope.names, y.2 = .local → scope.names.lookup y.1 = some .local := by decide) (hx : scope.names.lookup x = some .local := by rfl)
    (hs : ∀ x, foldedSetIterable iter env x = pure x := by intro _; rfl) : wpAny (model prog w) A (exec (.Assign [.Name y py] (.ListComp elt [⟨.Name x px, iter, ifs, 0⟩] scope pos) spos) env) Q E ⟨h, g, d, t, os⟩ := by
  classical
  obtain ⟨G, gh, gf⟩ := hM.told
  have hall : DaAll G vs.toList (rs.map rowDa) := gf _ hf
  refine wpAny_Assign_ListComp_free (fun v => decide (∃ (i : Nat) (r : Row), vs[i]? = some v ∧ rs[i]? = some r ∧ test r = true)) (fun v y => ∃ (i : Nat) (r : Row), vs[i]? = some v ∧ rs[i]? = some r ∧ ∀ G : Gr, DaIn G v (rowDa r) → DaIn G y (out r))
    (swaps_local hE hy hsl hsn) hclos hcell hkind hnames hx (by unfold Env.kindOf; rw [hE.names]; exact hy) (by rw [hE.kind]; rfl) (q _ _ ⟨fun _ _ _ _ => rowDa_det, fun i v r hv hr => ?_, fun v y => Iff.rfl⟩) hs
  rw [Bool.eq_iff_iff, decide_eq_true_eq]
  refine ⟨fun ⟨i', r', hv', hr', ht⟩ => ?_, fun ht => ⟨i, r, hv, hr, ht⟩⟩
  rw [rowDa_det (hall.rowAt hv hr) (hall.rowAt hv' hr')]; exact ht
theorem m_asgcompgo {elt : Expr} {x y : Str} {ifs : List Expr} {scope : Scope} {clc : List (Str × Addr)} {a : Addr} {vs : Array Value} {rs : List Row} {test : Row → Bool} {out : Row → Da} {p : Value → Bool} {F : Value → Value → Prop} {Q : Flow → Shared → Prop} (hpf : PF rowDa vs rs test out p F) (hA : A.handled = none) (hE : EnvIs env L ns cl) (hM : Mst H0 B G₀ L (lk l) W D h) (hL : h.IsList a vs)
    (hf : (vs.toList, rs.map rowDa) ∈ D) (hlen : rs.length ≤ 1000)
    (tests : ∀ C r v (h₃ : Heap) g₃ d₃ t os₃ m₃ E', r ∈ rs → DaIn h₃.get? v (rowDa r) → h₃.Ns C m₃ → m₃ x = some v → (∀ b o, h.get? b = some o → h₃.get? b = some o) →
      wpAny (model prog w) A (forIn ifs true fun c r => if r = true then do let ok ← isTrue c (compEnvC scope clc C env) (eval c (compEnvC scope clc C env)); pure (ForInStep.yield ok) else pure (ForInStep.yield r)) (fun ok s₄ => ok = test r ∧ ∃ t', s₄ = ⟨h₃, g₃, d₃, t', os₃⟩) E' ⟨h₃, g₃, d₃, t, os₃⟩)
    (elts : ∀ C r v (h₃ : Heap) g₃ d₃ t os₃ m₃ E', r ∈ rs → test r = true → DaIn h₃.get? v (rowDa r) → h₃.Ns C m₃ → m₃ x = some v → (∀ b o, h.get? b = some o → h₃.get? b = some o) →
      wpAny (model prog w) A (eval elt (compEnvC scope clc C env)) (fun y s₄ => (∀ G : Gr, DaIn G v (rowDa r) → DaIn G y (out r)) ∧ ∃ t', s₄ = ⟨h₃, g₃, d₃, t', os₃⟩) E' ⟨h₃, g₃, d₃, t, os₃⟩)
    (q : ∀ r ys h' t', Mst H0 B G₀ L (lk ((y, .ref r) :: l)) ((r, .lst ys) :: W) ((ys.toList, (rs.filter test).map out) :: D) h' → Q .next ⟨h', g, d, t', os⟩) : CompGoA prog w A env scope clc x y ifs elt p F Q E (.ref a) ⟨h, g, d, t, os⟩ := by
  obtain ⟨G, gh, gf⟩ := hM.told
  have hall : DaAll h.get? vs.toList (rs.map rowDa) := (gf _ hf).mono gh
  have hsz : vs.size = rs.length := by simpa using hM.has hf
  have hlt : a < h.objs.size := by obtain ⟨o, ho, _⟩ := hL; exact Heap.lt_size ho
  obtain ⟨mL, hnL, hmL⟩ := hM.ns
  obtain ⟨oL, hoL⟩ := hM.hasL
  have hLlt : L < h.objs.size := Heap.lt_size hoL
  have row : ∀ (i : Nat) (v : Value), vs[i]? = some v → ∃ r, rs[i]? = some r ∧ r ∈ rs ∧ DaIn h.get? v (rowDa r) := fun i v hv => by
    have hi : i < rs.length := by rw [← hsz]; exact (Array.getElem?_eq_some_iff.mp hv).1
    have hr := List.getElem?_eq_getElem hi
    exact ⟨_, hr, List.getElem_mem hi, hall.rowAt hv hr⟩
  unfold CompGoA
  refine wpAny_pyIter_list hL ?_
  have kp : ∀ (s₃ : Heap), (∀ b o, b ∉ [h.objs.size] → (h.push { cls := .type "list_iterator", data := .fields #[.ref a, .int 0 0] }).get? b = some o → s₃.get? b = some o) → ∀ b o, h.get? b = some o → s₃.get? b = some o := fun s₃ k b o e =>
    k b o (fun hm => absurd (Heap.lt_size e) (by rw [List.mem_singleton.mp hm]; exact Nat.lt_irrefl _)) (Heap.get?_push_of_some _ e)
  refine ⟨h.objs.size, _, _, _, _, _, mL, rfl, Walks.list hA _ a (Nat.ne_of_lt hlt) vs, by rw [sizeLine_eq]; omega, ⟨⟨_, Heap.get?_push_size _ rfl, rfl, rfl⟩, hL.push _⟩, ?_, ?_, ?_, ⟨?_, ?_⟩, ?_⟩
  · intro b hb
    show b < (h.push _).objs.size
    rw [Heap.size_push]
    rcases List.mem_cons.mp hb with rfl | hb
    · exact Nat.lt_succ_self _
    · rw [List.mem_singleton.mp hb]; exact Nat.lt_succ_of_lt hlt
  · rw [hE.locals]
    intro hm
    exact absurd hLlt (by rw [List.mem_singleton.mp hm]; exact Nat.lt_irrefl _)
  · rw [hE.locals]; exact hnL.push _
  · rintro C i v ⟨h₃, g₃, d₃, t₃, os₃⟩ m₃ E' - hP hN hm k -
    obtain ⟨r, hr, hmem, hi⟩ := row i v hP
    have kk := kp h₃ k
    exact wpAny_mono (tests C r v h₃ g₃ d₃ t₃ os₃ m₃ E' hmem (hi.mono kk) hN hm kk) (fun ok s₄ ⟨e, t', es⟩ => ⟨e.trans (hpf.p i v r hP hr).symm, h₃, t', es, fun _ _ e => e⟩) fun _ _ z => z
  · rintro C i v ⟨h₃, g₃, d₃, t₃, os₃⟩ m₃ E' - hP hpv hN hm k -
    obtain ⟨r, hr, hmem, hi⟩ := row i v hP
    have kk := kp h₃ k
    exact wpAny_mono (elts C r v h₃ g₃ d₃ t₃ os₃ m₃ E' hmem ((hpf.p i v r hP hr).symm.trans hpv) (hi.mono kk) hN hm kk) (fun y s₄ ⟨e, t', es⟩ => ⟨(hpf.F v y).mpr ⟨i, r, hP, hr, e⟩, h₃, t', es, fun _ _ e => e⟩) fun _ _ z => z
  · intro D' h' tk ys vs' hnone hl hpl hlen' hP' hpair hns' k
    rw [hE.locals] at hns' k
    have kk : ∀ b o, b ≠ L → h.get? b = some o → h'.get? b = some o := fun b o hb e =>
      k b o hb (fun hm => absurd (Heap.lt_size e) (by rw [List.mem_singleton.mp hm]; exact Nat.lt_irrefl _)) (Heap.get?_push_of_some _ e)
    have hn : h.get? D' = none := by
      cases e : h.get? D' with
      | none => rfl
      | some o =>
        replace hnone : (h.push { cls := .type "list_iterator", data := .fields #[.ref a, .int 0 0] }).get? D' = none := hnone
        rw [Heap.get?_push_of_some _ e] at hnone; cases hnone
    have ev : vs' = vs.toList := by
      apply List.ext_getElem?
      intro j
      cases e : vs'[j]? with
      | some v => have := hP' j v e; rw [Array.getElem?_toList, this]
      | none =>
        have : vs'.length ≤ j := List.getElem?_eq_none_iff.mp e
        rw [List.getElem?_eq_none (by rw [Array.length_toList]; omega)]
    subst ev
    have hns2 : NsK h' L (lk ((y, .ref D') :: l)) := by
      refine ⟨_, hns', fun z u hz => ?_⟩
      replace hz : List.lookup z ((y, Value.ref D') :: l) = some u := hz
      show (if z = y then some (Value.ref D') else mL z) = some u
      rw [List.lookup_cons] at hz
      by_cases hx : z = y
      · subst hx; simpa using hz
      · rw [if_neg hx]
        cases hb : z == y with
        | true => exact absurd (eq_of_beq hb) hx
        | false => rw [hb] at hz; exact hmL z u hz
    have hM2 := hM.madeOwnN (w := .lst ys) kk hns2 hpl hn
    refine q D' ys h' tk (hM2.with (f := (ys.toList, (rs.filter test).map out)) fun G g => ?_)
    have hG := g _ hf
    exact paired_of vs.toList rs (by rw [Array.length_toList]; exact hsz) (fun i v r hv hr => by
      rw [Array.getElem?_toList] at hv
      refine ⟨hpf.p i v r hv hr, fun y hy ht => ?_⟩
      obtain ⟨i', r', hv', hr', hy⟩ := (hpf.F v y).mp hy
      rw [← rowDa_det (hG.rowAt hv' hr') (hG.rowAt hv hr)]
      exact hy G (hG.rowAt hv' hr')) ys.toList hpair
end
end Mine
end
section
open PySem PySem.W PySem.Calls PySem.Spec PyProof.Rows
set_option Elab.async false
set_option maxRecDepth 100000
namespace Mine
section
variable {prog : Program} {w : World} {A : Around} {E : Value → Shared → Prop} {K : Frag} {H0 : Heap} {B G₀ : Gr} {L : Addr} {m : Loc} {l : List (Str × Value)} {W W' W₁ W₂ : Own} {D : Facts} {h : Heap} {g : Array GenState} {d : Drawn} {t : Nat} {os : OsState} {env : Env} {ns : List (Str × NameKind)} {cl : List (Str × Addr)}
/-- an item of an instance, by a def of its class -/
theorem m_isubs {value slice : Expr} {x C dx f : Addr} {fl : List (Str × Value)} {k : Value} {Q : Value → Shared → Prop} (gd : Gd K H0) (hM : Mst H0 B G₀ L m W D h) (i : Inst W D x C dx fl) (hs : findIn K (.ref C) "__getitem__" = some (some (.ref f))) (hf : fnIn K f = true) (ht : typeIn K (.ref f) = some (.type "function"))
    (q : wpAny (model prog w) A.in1 (call (.ref f) [.ref x, k]) Q E ⟨h, g, d, t, os⟩)
    (hsl : subscripted slice true (.ref x) k = runValue (.builtin "lifetime.subscript" ⟨[.ref x, k], []⟩) := by with_unfolding_all rfl) : wpAny (model prog w) A (subscriptTail value slice (.ref x) k) Q E ⟨h, g, d, t, os⟩ := by
  obtain ⟨o, I, -, -⟩ := hM.inst i
  have X := gd.X.keeps hM.low
  unfold fnIn at hf
  split at hf
  · rename_i e
    unfold subscriptTail getitemInPython
    refine wpAny_bind (wpAny_bind (wpAny_bind (I.type.here ((looks_findIn X hs).here ?_))))
    dsimp only
    refine wpAny_bind (wpAny_load (s := ⟨h, g, d, t, os⟩) (X _ _ e) (wpAny_pure ?_))
    dsimp only
    rw [hsl]
    refine wpAny_bind (wpAny_runValue (codeAny_builtin entry_sub ?_))
    unfold Builtin.«lifetime.subscript»
    refine wpAny_bind (special_fn (s := ⟨h, g, d, t, os⟩) X I hs ht (wpAny_mono q (fun v s' z => ?_) fun _ _ z => z))
    refine wpAny_pure ?_
    show wpAny (model prog w) A (letTemporaryGo value (.ref x) v >>= fun _ => pure v) Q E s'
    exact wpAny_bind (wpAny_letTemporaryGo (wpAny_pure z))
  · cases hf
theorem go_tupleiter {elts : List Expr} {k : Nat} {pos : Pos} {I T : Addr} {i : Nat} {v : Value} {s : Shared} {Q : Unit → Shared → Prop} (hit : s.heap.IsTupleIter I T i) (hQ : Q () s) :
    wpAny (model prog w) A (letOwnedTupleGo (.Tuple elts k pos) (.ref I) v) Q E s := by
  cases v with
  | ref a =>
    obtain ⟨o, ho, hc, hd⟩ := hit
    unfold letOwnedTupleGo
    refine wpAny_bind (wpAny_load ho ?_)
    rw [hc, hd]
    dsimp only
    rw [if_neg (by
      intro h
      rw [show (["enumerate", "zip", "dict_itemiterator", "dict_reverseitemiterator", "odict_iterator", "itertools.zip_longest", "itertools.pairwise"].contains "tuple_iterator") = false from by decide, Bool.false_and] at h
      cases h)]
    exact wpAny_pure hQ
  | _ => exact wpAny_pure hQ
/-- over a tuple of pairs, the second name held -/
theorem n_tupc {a c : Addr} {vs : Array Value} {ds : List Da} {x y : Str} {px py pt : Pos} {k : Nat} {body : List Stmt} {Q : Flow → Shared → Prop} {l₀ : List (Str × Value)} {D₀ : Facts} (hA : A.handled = none) (hE : EnvIs env L ns cl) (hl : ns.lookup x = some .local) (hl' : ns.lookup y = some .cell) (hc : cl.lookup y = some c)
    (hM : Mst H0 B G₀ L (lk l₀) W D₀ h) (hT : h.IsTuple a vs) (haL : a ≠ L) (haW : ∀ p ∈ W, p.1 ≠ a) (hsz : vs.size = ds.length) (hds : ∀ (i : Nat) (d : Da), ds[i]? = some d → ∃ d₁ d₂, d = Da.tup [d₁, d₂])
    (J : Nat → List (Str × Value) → Own → Facts → Prop) (hJ : ∀ i l W D, J i l W D → (vs.toList, ds) ∈ D) (Wf : Option Value → Own) (hWf : ∀ cv v, WUp c (.cell cv) (.cell (some v)) (Wf cv) (Wf (some v))) (hJc : ∀ i l W D, J i l W D → ∃ cv, W = Wf cv) (j0 : J 0 l₀ W D₀)
    (turn : ∀ i d₁ d₂ v₁ v₂ l₁ W' D' B' G' h' t' E' T, ds[i]? = some (.tup [d₁, d₂]) → J i l₁ W' D' → Mst H0 B' G' L (lk ((x, v₁) :: l₁)) (Wf (some v₂)) (([v₁], [d₁]) :: ([v₂], [d₂]) :: D') h' →
      (∀ m₂ W₃ D₁ h₂, Mst H0 B' G' L m₂ W₃ D₁ h₂ → Mst H0 B G₀ L m₂ W₃ D₁ h₂) → TurnTo H0 B' G' L g d os Q (J (i + 1)) T →
      wpAny (model prog w) A (execs body env) T E' ⟨h', g, d, t', os⟩)
    (done : ∀ l₁ W' D' h' t', J ds.length l₁ W' D' → Mst H0 B G₀ L (lk l₁) W' D' h' → Q .next ⟨h', g, d, t', os⟩) :
    wpAny (model prog w) A (pyIter (.ref a)) (fun it s₂ => codeAny (model prog w) A (.forLoop (.Tuple [.Name x px, .Name y py] k pt) it body [] env) (fun r s' => match r with | .ok f => Q f s' | .error e => cameBackBy (model prog w) A env E e s') s₂) E ⟨h, g, d, t, os⟩ := by
  obtain ⟨_, hn, _⟩ := id hT
  have hlt : a ≠ h.objs.size := Nat.ne_of_lt (Heap.lt_size hn)
  refine wpAny_pyIter_tuple (s := ⟨h, g, d, t, os⟩) hT ?_
  have hM' : Mst H0 B G₀ L (lk l₀) ([] ++ W) D₀ h := hM
  refine for_core (o := { cls := .type "tuple_iterator", data := .fields #[.ref a, .int 0 0] }) (Walks.tuple hA _ a hlt vs) rfl (fun i h' hst => let ⟨o, ho, _⟩ := hst.1; ⟨o, ho⟩) (fun i v h' t' Q' E' hst _ hq => go_tupleiter (s := ⟨h', g, d, t', os⟩) hst.1 hq) hM'
    ⟨⟨_, Heap.get?_push_size _ rfl, rfl, rfl⟩, hT.push _⟩ (fun b hb => ?_) J j0 (fun i v l₁ W' D' B' G' h' t' E' hi hP hj hM back => ?_) (fun l₁ W' D' h' t' j hM => done l₁ W' D' h' t' (hsz ▸ j) hM) fun f s' hf => hf
  · rcases List.mem_cons.mp hb with e | hb
    · exact .inl e
    · rw [List.mem_singleton.mp hb]; exact .inr ⟨⟨_, hn⟩, haL, haW⟩
  · have hi' : i < ds.length := hsz ▸ hi
    have hd : ds[i]? = some ds[i] := List.getElem?_eq_getElem hi'
    obtain ⟨d₁, d₂, e⟩ := hds i _ hd
    rw [e] at hd
    obtain ⟨v', hv', hM2⟩ := hM.nth (hJ _ _ _ _ hj) hd
    rw [Array.getElem?_toList] at hv'
    rw [hP] at hv'; cases hv'
    obtain ⟨T, rfl⟩ := hM2.isTup (.head _)
    refine m_un2 hA hM2 (.head _) fun v₁ v₂ h t hM => ?_
    refine m_asn hE hM hl fun h t hM => ?_
    obtain ⟨cv, eW⟩ := hJc i l₁ W' D' hj
    rw [eW] at hM
    refine wpAny_assign_Name (m_stc hE hM hl' hc (hWf cv v₂) fun h t hM => ?_)
    exact turn i d₁ d₂ v₁ v₂ l₁ W' D' B' G' h t E' _ hd hj (hM.sub fun f hf => by
      rcases List.mem_cons.mp hf with rfl | hf
      · exact .head _
      rcases List.mem_cons.mp hf with rfl | hf
      · exact .tail _ (.head _)
      · exact .tail _ (.tail _ (.tail _ hf))) (fun m₂ W₃ D₁ h₂ z => back m₂ W₃ D₁ h₂ z) .of
end
end Mine
end
section
open PySem PySem.W PySem.Calls PySem.Spec PyProof.Rows
set_option Elab.async false
set_option maxRecDepth 100000
namespace Mine
section
variable {prog : Program} {w : World} {A : Around} {E : Value → Shared → Prop} {K : Frag} {H0 : Heap} {g : Array GenState} {d : Drawn} {t : Nat} {os : OsState}
/-- a def is entered from outside -/
theorem m_deftop {f : Addr} {name qual : Str} {params : Arguments} {body : List Stmt} {scope : Scope} {dV kV doc pm cdv ct oc : Value} {an od : Option Addr} {osl : Array (Option Value)} {vals : List Value} {binds : List (Str × Value)} {Q : Value → Shared → Prop} {dd uu : Nat} (D : Facts)
    (gd : Gd K H0) (hD : ∀ f ∈ D, DaAll H0.get? f.1 f.2) (hA : Rm A (dd + 1) (uu + 3))
    (ho : K.lookup f = some ⟨oc, od, .func (fnOf name qual params body scope dV kV doc pm an cdv ct), osl⟩) (hcd : codeIn K cdv qual = true)
    (hbind : BindsTo ⟨H0, g, d, t, os⟩ (fnOf name qual params body scope dV kV doc pm an cdv ct) ⟨vals, []⟩ binds) (hloc : binds.all (fun y => decide (scope.names.lookup y.1 = some .local)) = true)
    (q : ∀ env A' L' B' G' h' t' (R : Flow → Shared → Prop) E', EnvIs env L' scope.names [] → Rm A' dd uu → Mst H0 B' G' L' (lk binds.reverse) [] D h' →
      (∀ v m' W' D' h' t', Mst H0 B' G' L' m' W' D' h' → ((∀ b o, H0.get? b = some o → h'.get? b = some o) → Q v ⟨h', g, d, t', os⟩) → R (.ret v) ⟨h', g, d, t', os⟩) →
      wpAny (model prog w) A' (execs body env) R E' ⟨h', g, d, t', os⟩)
    (hco : scope.isCoroutine = false := by rfl) (hgen : scope.isGenerator = false := by rfl) (hk : scope.kind = .function := by rfl)
    (hcell : ∀ x ∈ scope.names, x.2 ≠ .cell := by decide) : wpAny (model prog w) A (call (.ref f) vals) Q E ⟨H0, g, d, t, os⟩ := by
  obtain ⟨X, p, loose, mean, mg, mb, T⟩ := gd
  refine wpAny_call (codeAny_call_def (fd := fnOf name qual params body scope dV kV doc pm an cdv ct) (body := body) (binds := binds) (by have := hA.dp; omega) (X _ _ ho) rfl T.nolimit (codeRec_of X hcd) rfl hbind hcell (fun y hy => of_decide_eq_true (List.all_eq_true.mp hloc y hy)) (fun h₁ hns hk₁ => ?_) hco hgen hk)
  have hN : Mst H0 H0.get? H0.get? H0.objs.size (lk binds.reverse) [] D h₁ :=
    ⟨fun _ _ e => e, hk₁, .of hns, newNone H0, (fun _ h => by cases h), List.nodup_nil, ⟨H0.get?, fun _ _ e => e, hk₁, (fun _ _ e => .inl e), newNone H0, (fun _ h => by cases h), hD⟩⟩
  refine wpAny_mono (q (callEnv (fnOf name qual params body scope dV kV doc pm an cdv ct) H0.objs.size f) _ H0.objs.size _ _ h₁ (t + binds.length) (fun fl s' => ∃ h' t', s' = ⟨h', g, d, t', os⟩ ∧ Q (retOf fl) s') (fun _ _ => False) ⟨rfl, rfl, hk, rfl, rfl, rfl⟩ hA.deeper hN (fun v m' W' D' h' t' hM z => ⟨h', t', rfl, z hM.low⟩)) (fun fl s' hs => ?_) fun _ _ z => z.elim
  obtain ⟨h', t', rfl, z⟩ := hs
  exact z
end
end Mine
end
section
open PySem PySem.W PySem.Calls PySem.Spec PyProof.Rows
set_option Elab.async false
set_option maxRecDepth 100000
set_option maxHeartbeats 0
namespace Mine
open PySem.W.Fast
def qv : Program := view pw [0, 22]
def lse : List Str := ["_wall", "ELLIPSIS_MARKER", "_ellipsis_match", "Whitespace", "tspecials", "_name_disallowed_re", "_value_disallowed_re", "_formatparam", "Headers", "_law_steps", "_law_columns", "_law_kept", "_law_put", "_law_table_is_right", "_law_found", "_law_at_an_end", "_law_played"]
theorem kf_as (P : Params) : KFas = (KF P).map (·.1) := rfl
noncomputable def hk : Hook := kHook KF KFas kf_as
abbrev LeftAt (w : World) : Prop := (openEnds treeTable pw w 4000).map (fun s => (openSeen qv lse (importedModules pw.main.body) (fun s => xlAt qv [] s && recOk [] s) true s, KFas.map s.heap.get?)) = some (openGood qv lse, (KF w.params).map fun p => some p.2)
theorem left_f (w : World) : LeftAt (w.withFollow "special-get-raises" false) := by
  unfold LeftAt openEnds fencedOpening topFrom
  rw [te10274390034422433532, te14082659384304107361, te14289696077712309145, te4187177175401517315, te1435165496053646825, te14364793385576792824, te8920871248978507458]
  kernel_rfl
theorem left_t (w : World) : LeftAt (w.withFollow "special-get-raises" true) := by
  unfold LeftAt openEnds fencedOpening topFrom
  rw [te10274390034422433532, te14082659384304107361, te14289696077712309145, te4187177175401517315, te1435165496053646825, te14364793385576792824, te8920871248978507458]
  kernel_rfl
theorem left (w : World) : LeftAt w := byRow2 "special-get-raises" left_f left_t w
end Mine
end
section
open PySem PySem.W PySem.Calls PySem.Spec PyProof.Rows
namespace Mine
set_option hygiene false in
local macro_rules | `(tactic| walk_at "mem") => `(tactic| repeat (first | exact List.Mem.head _ | refine List.Mem.tail _ ?_))
set_option hygiene false in
local macro_rules | `(tactic| walk_at "fact") => `(tactic| (intro _ g; repeat (first | exact DaAll.nil | exact DaIn.int _ _ | exact DaIn.str _ _ | exact DaIn.none | exact DaIn.bool _ | exact (g (_, _) (by walk_at "mem")).head | refine DaAll.cons ?_ ?_)))
set_option hygiene false in
local macro_rules | `(tactic| walk_at "pick") => `(tactic| repeat (first | exact List.Sublist.refl _ | exact List.Sublist.slnil | exact List.nil_sublist _ | refine List.Sublist.cons_cons _ ?_ | refine List.Sublist.cons _ ?_))
set_option hygiene false in
local macro_rules | `(tactic| walk_at "lin") => `(tactic| first | exact .own (by walk_at "mem") | exact .ownx (by walk_at "mem") | exact .kept (by walk_at "mem") (by assumption))
set_option hygiene false in
local macro_rules | `(tactic| walk_at "sub") => `(tactic| (intro _ hf; (repeat (rcases List.mem_cons.mp hf with hf | hf; · (subst hf; walk_at "mem"))); (repeat (first | exact hf | apply List.Mem.tail))))
set_option hygiene false in
local macro_rules | `(tactic| walk_at "kn") => `(tactic| repeat (first | exact trivial | refine And.intro (by rfl) ?_))
set_option hygiene false in
local macro_rules | `(tactic| walk_at "m exec") => `(tactic| first
  | ((with_reducible show wpAny _ _ (exec (.Assign [.Name _ _] _ _) _) _ _ _); refine m_asg ?_)
  | ((with_reducible show wpAny _ _ (exec (.Assign [.Attribute _ _ _] _ _) _) _ _ _); refine plainObj_wpAny_Assign_Attribute ?_)
  | ((with_reducible show wpAny _ _ (exec (.Assign [.Subscript _ _ _] _ _) _) _ _ _); refine wpAny_Assign_Subscript ?_ (by rfl))
  | ((with_reducible show wpAny _ _ (exec (.Assign [_, _] _ _) _) _ _ _); refine wpAny_Assign_two ?_)
  | ((with_reducible show wpAny _ _ (exec (.Assign [_, _, _] _ _) _) _ _ _); refine wpAny_Assign_three ?_)
  | ((with_reducible show wpAny _ _ (exec (.Assign [.Tuple _ _ _] _ _) _) _ _ _); first | (refine Assign_Tuple ?_) | (refine m_sw hE (by rfl) ?_))
  | ((with_reducible show wpAny _ _ (exec (.Break _) _) _ _ _); refine wpAny_Break ?_)
  | ((with_reducible show wpAny _ _ (exec (.AugAssign (.Name _ _) _ _ _) _) _ _ _); refine m_aug ?_)
  | ((with_reducible show wpAny _ _ (exec (.Expr _ _) _) _ _ _); refine m_expr hE ?_)
  | ((with_reducible show wpAny _ _ (exec (.Return (some _) _) _) _ _ _); refine wpAny_Return_some ?_)
  | ((with_reducible show wpAny _ _ (exec (.Assert _ _ _) _) _ _ _); refine wpAny_Assert_holds ?_)
  | ((with_reducible show wpAny _ _ (exec (.For _ _ _ _ _) _) _ _ _); refine wpAny_For ?_))
set_option hygiene false in
local macro_rules | `(tactic| walk_at "m eval") => `(tactic| first
  | ((with_reducible show wpAny _ _ (eval (.Name _ _) _) _ _ _); first
     | refine m_ldl hE hM (by exact rfl) (by exact rfl) ?_
     | first
       | ((with_reducible show wpAny _ _ (eval (.Name (Str.ofString "ELLIPSIS_MARKER") _) _) _ _ _); refine m_glg hE gd hM (g_ELLIPSIS_MARKER _) (by exact rfl) ?_)
       | ((with_reducible show wpAny _ _ (eval (.Name (Str.ofString "_ellipsis_match") _) _) _ _ _); refine m_glg hE gd hM (g__ellipsis_match _) (by exact rfl) ?_)
       | ((with_reducible show wpAny _ _ (eval (.Name (Str.ofString "Whitespace") _) _) _ _ _); refine m_glg hE gd hM (g_Whitespace _) (by exact rfl) ?_)
       | ((with_reducible show wpAny _ _ (eval (.Name (Str.ofString "Headers") _) _) _ _ _); refine m_glg hE gd hM (g_Headers _) (by exact rfl) ?_)
       | ((with_reducible show wpAny _ _ (eval (.Name (Str.ofString "_name_disallowed_re") _) _) _ _ _); refine m_glg hE gd hM (g__name_disallowed_re _) (by exact rfl) ?_)
       | ((with_reducible show wpAny _ _ (eval (.Name (Str.ofString "_value_disallowed_re") _) _) _ _ _); refine m_glg hE gd hM (g__value_disallowed_re _) (by exact rfl) ?_)
       | ((with_reducible show wpAny _ _ (eval (.Name (Str.ofString "_law_steps") _) _) _ _ _); refine m_glg hE gd hM (g__law_steps _) (by exact rfl) ?_)
       | ((with_reducible show wpAny _ _ (eval (.Name (Str.ofString "_law_columns") _) _) _ _ _); refine m_glg hE gd hM (g__law_columns _) (by exact rfl) ?_)
       | ((with_reducible show wpAny _ _ (eval (.Name (Str.ofString "_law_kept") _) _) _ _ _); refine m_glg hE gd hM (g__law_kept _) (by exact rfl) ?_)
       | ((with_reducible show wpAny _ _ (eval (.Name (Str.ofString "_law_put") _) _) _ _ _); refine m_glg hE gd hM (g__law_put _) (by exact rfl) ?_)
       | ((with_reducible show wpAny _ _ (eval (.Name (Str.ofString "_law_table_is_right") _) _) _ _ _); refine m_glg hE gd hM (g__law_table_is_right _) (by exact rfl) ?_)
       | ((with_reducible show wpAny _ _ (eval (.Name (Str.ofString "_law_found") _) _) _ _ _); refine m_glg hE gd hM (g__law_found _) (by exact rfl) ?_)
       | ((with_reducible show wpAny _ _ (eval (.Name (Str.ofString "_law_at_an_end") _) _) _ _ _); refine m_glg hE gd hM (g__law_at_an_end _) (by exact rfl) ?_)
       | ((with_reducible show wpAny _ _ (eval (.Name (Str.ofString "_law_played") _) _) _ _ _); refine m_glg hE gd hM (g__law_played _) (by exact rfl) ?_)
       | ((with_reducible show wpAny _ _ (eval (.Name (Str.ofString "len") _) _) _ _ _); refine m_big hE gd hM (g_len _) b_len (by exact rfl) ?_)
       | ((with_reducible show wpAny _ _ (eval (.Name (Str.ofString "range") _) _) _ _ _); refine m_big hE gd hM (g_range _) b_range (by exact rfl) ?_)
       | ((with_reducible show wpAny _ _ (eval (.Name (Str.ofString "max") _) _) _ _ _); refine m_big hE gd hM (g_max _) b_max (by exact rfl) ?_)
       | ((with_reducible show wpAny _ _ (eval (.Name (Str.ofString "tuple") _) _) _ _ _); refine m_big hE gd hM (g_tuple _) b_tuple (by exact rfl) ?_)
       | ((with_reducible show wpAny _ _ (eval (.Name (Str.ofString "list") _) _) _ _ _); refine m_big hE gd hM (g_list _) b_list (by exact rfl) ?_)
       | ((with_reducible show wpAny _ _ (eval (.Name (Str.ofString "str") _) _) _ _ _); refine m_big hE gd hM (g_str _) b_str (by exact rfl) ?_)
       | ((with_reducible show wpAny _ _ (eval (.Name (Str.ofString "type") _) _) _ _ _); refine m_big hE gd hM (g_type _) b_type (by exact rfl) ?_)
       | ((with_reducible show wpAny _ _ (eval (.Name (Str.ofString "zip") _) _) _ _ _); refine m_big hE gd hM (g_zip _) b_zip (by exact rfl) ?_))
  | ((with_reducible show wpAny _ _ (eval (.Constant _ _ _) _) _ _ _); first | with_reducible refine m_int ?_ | with_reducible refine m_str ?_ | with_reducible refine m_none ?_ | with_reducible refine m_bool ?_)
  | ((with_reducible show wpAny _ _ (eval (.Attribute _ _ _) _) _ _ _); refine Attribute_any_ ?_)
  | ((with_reducible show wpAny _ _ (eval (.Subscript _ _ _) _) _ _ _); refine PyProof.Rows.Subscript_ ?_)
  | ((with_reducible show wpAny _ _ (eval (.BinOp _ _ _ _) _) _ _ _); refine wpAny_BinOp ?_)
  | ((with_reducible show wpAny _ _ (eval (.Compare _ _ _ _) _) _ _ _); refine wpAny_Compare1 ?_)
  | ((with_reducible show wpAny _ _ (eval (.BoolOp .And (_ :: _ :: _) _) _) _ _ _); refine m_vand ?_)
  | ((with_reducible show wpAny _ _ (eval (.BoolOp _ [_] _) _) _ _ _); refine m_vone ?_)
  | ((with_reducible show wpAny _ _ (eval (.IfExp _ _ _ _) _) _ _ _); refine m_ifx ?_)
  | ((with_reducible show wpAny _ _ (eval (.Call (.Attribute _ _ _) _ [] _) _) _ _ _); refine m_meth ?_)
  | ((with_reducible show wpAny _ _ (eval (.Call (.Attribute _ _ _) _ (_ :: _) _) _) _ _ _); refine m_methkw ?_)
  | ((with_reducible show wpAny _ _ (eval (.Call _ _ [] _) _) _ _ _); refine m_call ?_)
  | ((with_reducible show wpAny _ _ (eval (.UnaryOp .USub _ _) _) _ _ _); refine wpAny_UnaryOp ?_)
  | ((with_reducible show wpAny _ _ (eval (.Slice _ _ none _) _) _ _ _); refine m_slice ?_)
  | ((with_reducible show wpAny _ _ (eval (.Tuple _ _ _) _) _ _ _); refine m_tup ?_)
  | ((with_reducible show wpAny _ _ (eval (.List _ _) _) _ _ _); refine m_lst ?_))
set_option hygiene false in
local macro_rules | `(tactic| walk_at "m test") => `(tactic| first
  | ((with_reducible show wpAny _ _ (isTrue (.Name (Str.ofString "__debug__") _) _ _) _ _ _); refine m_debug (by rfl) ?_)
  | ((with_reducible show wpAny _ _ (isTrue (.Compare _ _ _ _) _ _) _ _ _); refine wpAny_isTrue_Compare1 ?_)
  | ((with_reducible show wpAny _ _ (isTrue (.BoolOp .And [_] _) _ _) _ _ _); refine m_and1 ?_)
  | ((with_reducible show wpAny _ _ (isTrue (.BoolOp .Or [_] _) _ _) _ _ _); refine m_or1 ?_)
  | ((with_reducible show wpAny _ _ (isTrue (.BoolOp .And _ _) _ _) _ _ _); refine m_and ?_)
  | ((with_reducible show wpAny _ _ (isTrue (.BoolOp .Or _ _) _ _) _ _ _); refine m_or ?_)
  | ((with_reducible show wpAny _ _ (isTrue (.UnaryOp .Not _ _) _ _) _ _ _); refine m_not ?_)
  | refine isTrue_plain ?_)
set_option hygiene false in
local macro_rules | `(tactic| walk_at "m op") => `(tactic| first
  | ((with_reducible show wpAny _ _ (binaryOp .Add (.int _ _) (.int _ _)) _ _ _); refine m_add ?_)
  | ((with_reducible show wpAny _ _ (binaryOp .Sub (.int _ _) (.int _ _)) _ _ _); refine m_sub ?_)
  | ((with_reducible show wpAny _ _ (binaryOp .Mod (.int _ _) (.int _ _)) _ _ _); refine m_mod (by omega) ?_)
  | ((with_reducible show wpAny _ _ (binaryOp .Mult (.int _ _) (.int _ _)) _ _ _); refine m_muli (by omega) ?_)
  | ((with_reducible show wpAny _ _ (binaryOp .FloorDiv (.int _ _) (.int _ _)) _ _ _); refine m_fdiv (by omega) (by omega) (by omega) ?_)
  | ((with_reducible show wpAny _ _ (inplaceOp .Add (.int _ _) (.int _ _)) _ _ _); refine m_iadd ?_)
  | ((with_reducible show wpAny _ _ (compareOp .Lt (.int _ _) (.int _ _)) _ _ _); refine m_lt ?_)
  | ((with_reducible show wpAny _ _ (compareOp .Gt (.int _ _) (.int _ _)) _ _ _); refine m_gt ?_)
  | ((with_reducible show wpAny _ _ (compareOp .LtE (.int _ _) (.int _ _)) _ _ _); refine m_le ?_)
  | ((with_reducible show wpAny _ _ (compareOp .GtE (.int _ _) (.int _ _)) _ _ _); refine m_ge ?_)
  | ((with_reducible show wpAny _ _ (compareOp .Eq (.int _ _) (.int _ _)) _ _ _); refine m_eqi ?_)
  | ((with_reducible show wpAny _ _ (compareOp .NotEq (.int _ _) (.int _ _)) _ _ _); refine m_nei ?_)
  | ((with_reducible show wpAny _ _ (compareOp .Eq (.str _ _) (.str _ _)) _ _ _); refine m_eqs ?_)
  | ((with_reducible show wpAny _ _ (compareOp .NotEq (.str _ _) (.str _ _)) _ _ _); refine m_nes ?_)
  | ((with_reducible show wpAny _ _ (unaryOp .USub (.int _ _)) _ _ _); refine m_neg ?_)
  | ((with_reducible show wpAny _ _ (binaryOp .Add (.str _ _) (.str _ _)) _ _ _); refine m_adds hM (by walk_at "slen") ?_; intro _ _)
  | ((with_reducible show wpAny _ _ (truthy .none) _ _ _); refine m_tnone ?_)
  | ((with_reducible show wpAny _ _ (compareOp .Is _ _) _ _ _); (with_reducible refine m_is ?hpl ?_); (case hpl => rfl))
  | ((with_reducible show wpAny _ _ (compareOp .IsNot _ _) _ _ _); (with_reducible refine m_isn ?hpl ?_); (case hpl => rfl))
  | ((with_reducible show wpAny _ _ (call (.type "type") [.str _ _]) _ _ _); refine m_types ?_)
  | ((with_reducible show wpAny _ _ (truthy (.bool _)) _ _ _); refine m_tb ?_)
  | ((with_reducible show wpAny _ _ (getMethod (.str _ _) (Str.ofString "lower") _) _ _ _); refine m_gm_lower ?_)
  | ((with_reducible show wpAny _ _ (call (.builtin "str.lower") [_]) _ _ _); refine m_lower (by omega) ?_)
  | ((with_reducible show wpAny _ _ (getMethod (.ref _) (Str.ofString "append") _) _ _ _); refine m_gm_append hM (by walk_at "mem") ?_)
  | ((with_reducible show wpAny _ _ (call (.builtin "list.append") [.ref _, _]) _ _ _); refine m_append hM (by walk_at "wup") (by walk_at "size") ?_; clear hM; intro _ _ hM))
set_option hygiene false in
local macro_rules | `(tactic| walk_at "size") => `(tactic| exact Nat.le_trans (m := 1000000) (by first | omega | (simp only [List.length_cons, List.length_nil, List.length_append, List.length_map, List.size_toArray, Array.size_push]; omega)) (by decide))
set_option hygiene false in
local macro_rules | `(tactic| walk_at "slen") => `(tactic| exact Nat.le_trans (m := 1000000) (by first | omega | (simp only [len_app]; omega) | (simp only [Str.length, List.size_toArray, List.length_append, List.length_replicate, List.length_cons, List.length_nil]; omega)) (by decide))
set_option hygiene false in
local macro_rules | `(tactic| walk_at "wup") => `(tactic| repeat (first | exact WUp.head | apply WUp.tail))
set_option hygiene false in
local macro_rules | `(tactic| walk_at "mi") => `(tactic| first | walk_at "m" | ((with_reducible show wpAny _ _ (exec (.If _ _ _ _) _) _ _ _); refine m_if ?_))
set_option hygiene false in
local macro_rules | `(tactic| walk_at "m call") => `(tactic| first
  | ((with_reducible show wpAny _ _ (callWith _ (.type _) [] _ _) _ _ _); refine m_ct ?_)
  | ((with_reducible show wpAny _ _ (callWith _ (.ref _) [_] _ (backToKw _ (keywordEach [_] _))) _ _ _); refine m_cdkw gd (by rfl) ?_)
  | ((with_reducible show wpAny _ _ (callWith _ (.builtin _) [] (backTo _ (starEach (_ :: _) _)) _) _ _ _); refine m_cb ?_)
  | ((with_reducible show wpAny _ _ (callWith _ (.builtin _) [_] (backTo _ (starEach (_ :: _) _)) _) _ _ _); refine m_cbm ?_)
  | ((with_reducible show wpAny _ _ (callWith _ (.builtin _) _ (backTo _ (starEach [] _)) _) _ _ _); refine m_cb0 ?_)
  | ((with_reducible show wpAny _ _ (callWith _ (.ref _) [] (backTo _ (starEach (_ :: _) _)) _) _ _ _); refine m_cd gd (by rfl) ?_)
  | ((with_reducible show wpAny _ _ (callWith _ (.ref _) [_] (backTo _ (starEach (_ :: _) _)) _) _ _ _); refine m_cdm gd (by rfl) ?_)
  | ((with_reducible show wpAny _ _ (callWith _ (.ref _) _ (backTo _ (starEach [] _)) _) _ _ _); refine m_cd0 gd hM (by rfl) ?_))
set_option hygiene false in
local macro_rules | `(tactic| walk_at "m") => `(tactic| first
  | ((with_reducible show wpAny _ _ (eval _ _) _ _ _); walk_at "m eval")
  | ((with_reducible show wpAny _ _ (exec _ _) _ _ _); walk_at "m exec")
  | ((with_reducible show wpAny _ _ (isTrue _ _ _) _ _ _); walk_at "m test")
  | ((with_reducible show wpAny _ _ (storeName _ _ _) _ _ _); refine m_st hE hM (by rfl) ?_; clear hM; intro _ _ hM)
  | ((with_reducible show wpAny _ _ (assign (.Name _ _) _ _) _ _ _); refine m_asn hE hM (by rfl) ?_; clear hM; intro _ _ hM)
  | ((with_reducible show wpAny _ _ (bindName _ _ _) _ _ _); refine m_bindName hE hM (by rfl) ?_; clear hM; intro _ _ hM)
  | ((with_reducible show wpAny _ _ (assignInOrder _ _) _ _ _); first | refine m_in2 ?_ | refine m_in3 ?_)
  | ((with_reducible show wpAny _ _ (loadName _ _) _ _ _); refine m_ldn hE hM (by rfl) (by rfl) ?_)
  | ((with_reducible show wpAny _ _ (execs (_ :: _) _) _ _ _); refine m_cons ?_)
  | ((with_reducible show wpAny _ _ (execs [] _) _ _ _); refine wpAny_execs_nil ?_)
  | ((with_reducible show wpAny _ _ (spliced (backTo _ (starEach (_ :: _) _))) _ _ _); refine m_args ?_)
  | ((with_reducible show wpAny _ _ (spliced (backTo _ (starEach [] _))) _ _ _); refine m_args0 ?_)
  | ((with_reducible show wpAny _ _ (evalPart none _) _ _ _); refine m_part0 ?_)
  | ((with_reducible show wpAny _ _ (evalPart (some _) _) _ _ _); refine m_part1 ?_)
  | ((with_reducible show Then _ _ _ _ _ _ .next _); (show wpAny _ _ (execs _ _) _ _ _))
  | ((with_reducible show Then _ _ _ _ _ _ .brk _); refine Then.brk ?_)
  | ((with_reducible show Then _ _ _ _ _ _ (.ret _) _); refine Then.ret ?_)
  | ((with_reducible show wpAny _ _ (callWith _ _ _ _ _) _ _ _); walk_at "m call")
  | ((with_reducible show Both (!false) _ _); refine Both.tt ?_)
  | ((with_reducible show Both (!true) _ _); refine Both.ff ?_)
  | ((with_reducible show Both true _ _); refine Both.tt ?_)
  | ((with_reducible show Both false _ _); refine Both.ff ?_)
  | ((with_reducible show Frag.In _ _ ∧ _); refine m_in gd hM ?_)
  | ((with_reducible show MkSl _ _ _ _); refine m_mksl hM ?_; clear hM; intro _ _ _ hM)
  | walk_at "m op")
/-! ## _law_columns -/
def colUp (size c : Nat) : Nat := (c + size) / size * size
def colStep (size c ch : Nat) : Nat := if ch = 9 then colUp size c else c + 1
def colOf (size : Nat) (l : List Nat) : Nat := l.foldl (colStep size) 0
def cols (x : Str) : List Nat := (List.range 6).map fun i => colOf (i + 1) x.cps.toList
def natsDa (l : List Nat) : List Da := l.map fun (n : Nat) => Da.int (n : Int)
theorem one_eq (c : Nat) : ((⟨#[c]⟩ : Str) == Str.ofString "\t") = decide (c = 9) := by
  have e : Str.ofString "\t" = ⟨#[9]⟩ := by rfl
  rw [e, Bool.eq_iff_iff, beq_iff_eq, decide_eq_true_eq]
  exact ⟨fun q => by injection q with q; injection q with q; injection q, fun q => by rw [q]⟩
theorem colUp_facts {size c : Nat} (hs : 0 < size) : c < colUp size c ∧ colUp size c ≤ c + size ∧ colUp size c % size = 0 := by
  unfold colUp
  have h1 := Nat.div_add_mod (c + size) size
  have h2 := Nat.mod_lt (c + size) hs
  rw [Nat.mul_comm] at h1
  refine ⟨by omega, by omega, Nat.mul_mod_left _ _⟩
theorem at_up {size c x : Nat} (hs : 0 < size) (h1 : c < x) (h2 : x ≤ colUp size c) (h3 : x % size = 0) : x = colUp size c := by
  obtain ⟨e1, e2, e3⟩ := colUp_facts (c := c) hs
  have h4 : (colUp size c - x) % size = 0 := Nat.sub_mod_eq_zero_of_mod_eq (by rw [e3, h3])
  rw [Nat.mod_eq_of_lt (by omega)] at h4
  omega
theorem col_snoc (size : Nat) (l : List Nat) (c : Nat) : colOf size (l ++ [c]) = colStep size (colOf size l) c := by
  unfold colOf; rw [List.foldl_append]; rfl
theorem take_snoc {α : Type} {l : List α} {i : Nat} {a : α} (h : l[i]? = some a) : l.take (i + 1) = l.take i ++ [a] := by
  rw [List.take_add_one, h]; rfl
theorem natsDa_range_snoc (f : Nat → Nat) (n : Nat) : natsDa ((List.range (n + 1)).map f) = natsDa ((List.range n).map f) ++ [.int (f n)] := by
  unfold natsDa; rw [List.range_succ, List.map_append, List.map_append]; rfl

theorem c_columns {prog : Program} {w : World} {A : Around} {E : Value → Shared → Prop} {H0 : Heap} {B G₀ : Gr} {L : Addr} {m : Loc} {W : Own} {D : Facts} {h : Heap} {g : Array GenState} {d : Drawn} {t : Nat} {os : OsState}
    {x : Str} {tx : Tok} {Q : Value → Shared → Prop} (gd : Gd (KF w.params) H0) (hM : Mst H0 B G₀ L m W D h) (hA : Rm A 10 40)
    (q : ∀ r h' t', Mst H0 B G₀ L m W (([.ref r], [.lst (natsDa (cols x))]) :: D) h' → Q (.ref r) ⟨h', g, d, t', os⟩) :
    wpAny (model prog w) A (call (.ref 273) [.str x tx]) Q E ⟨h, g, d, t, os⟩ := by
  have hM' : Mst H0 B G₀ L m (W ++ []) (([], []) :: D) h := by rw [List.append_nil]; exact hM.with fun _ _ => .nil
  refine m_def gd hM' (hA.le (d' := 10) (u' := 33) (by decide) (by decide)) (by rfl) (by rfl) (BindsTo.of_eq (binds := [(sx "lead", .str x tx)]) (by rfl)) (by rfl) ?_
  clear hM hM'
  intro env A' L' B' G' h t R E' hE hA' hM hR _
  repeat walk_at "m"
  refine m_newW hM (by decide) fun a h t hM => ?_
  repeat walk_at "m"
  refine m_range hM fun r h t t₁ t₂ t₃ hM hr => ?_
  repeat walk_at "m"
  refine n_range hA'.h hE (by rfl) (hM.know (l' := [(sx "columns", .ref a), (sx "lead", .str x tx)]) ⟨rfl, rfl, trivial⟩) hr (by decide) 6 (by decide)
    (fun i l W' D' => ∃ vs : Array Value, l = [(sx "columns", .ref a), (sx "lead", .str x tx)] ∧ vs.size = i ∧ W' = [(a, .lst vs)] ∧ D' = (vs.toList, natsDa ((List.range i).map fun i => colOf (i + 1) x.cps.toList)) :: D) ?_ ?_ ?_
  · exact ⟨#[], rfl, rfl, rfl, rfl⟩
  · rintro i tc l₁ W' D' B₁ G₁ h t E' T hi ⟨vs, rfl, hsz, rfl, rfl⟩ hM - hT
    repeat walk_at "m"
    refine n_str hA'.h hE (by rfl) hM
      (fun j l W' D' => ∃ tc', l = [(sx "column", .int (colOf (i + 1) (x.cps.toList.take j) : Nat) tc'), (sx "size", .int (1 + i) tc), (sx "columns", .ref a), (sx "lead", .str x tx)] ∧ W' = [(a, .lst vs)] ∧
        D' = (vs.toList, natsDa ((List.range i).map fun i => colOf (i + 1) x.cps.toList)) :: D) ⟨_, rfl, rfl, rfl⟩ ?_ ?_
    · rintro j c tc₂ l₁ W' D' B₂ G₂ h t E' T₂ hc ⟨tc', rfl, rfl, rfl⟩ hM - hT₂
      repeat walk_at "m"
      have hi1 : 0 < i + 1 := Nat.succ_pos _
      have ei : (1 : Int) + (i : Int) = ((i + 1 : Nat) : Int) := by omega
      have ef : ∀ y : Nat, (y : Int).fmod (1 + (i : Int)) = ((y % (i + 1) : Nat) : Int) := fun y => by rw [ei, Int.ofNat_fmod]
      obtain ⟨u1, u2, u3⟩ := colUp_facts (c := colOf (i + 1) (x.cps.toList.take j)) hi1
      have hsn : colOf (i + 1) (x.cps.toList.take (j + 1)) = colStep (i + 1) (colOf (i + 1) (x.cps.toList.take j)) c := by
        rw [take_snoc (by rw [Array.getElem?_toList]; exact hc), col_snoc]
      rw [hsn] at hT₂
      generalize colOf (i + 1) (x.cps.toList.take j) = C at *
      refine m_loop (l₀ := [(sx "column", .int ((C + 1 : Nat) : Int) _), (sx "letter", .str ⟨#[c]⟩ tc₂), (sx "size", .int (1 + i) tc), (sx "columns", .ref a), (sx "lead", .str x tx)]) (hM.know ⟨rfl, rfl, rfl, rfl, rfl, trivial⟩)
        (fun k l W' D' => ∃ y tk, l = [(sx "column", .int (y : Nat) tk), (sx "letter", .str ⟨#[c]⟩ tc₂), (sx "size", .int (1 + i) tc), (sx "columns", .ref a), (sx "lead", .str x tx)] ∧ W' = [(a, .lst vs)] ∧
          D' = (vs.toList, natsDa ((List.range i).map fun i => colOf (i + 1) x.cps.toList)) :: D ∧ (c = 9 → C < y ∧ y + k = colUp (i + 1) C) ∧ (c ≠ 9 → y = C + 1)) (colUp (i + 1) C - (C + 1)) ⟨_, _, rfl, rfl, rfl, fun _ => by omega, fun _ => rfl⟩ ?_
      rintro k l₁ W' D' h t E' T₃ ⟨y, tk, rfl, rfl, rfl, h9, hn9⟩ hM hT₃
      repeat walk_at "m"
      rw [one_eq]
      refine Both.cond (fun e9 => ?_) fun e9 => ?_
      · obtain ⟨f1, f2⟩ := h9 e9
        repeat walk_at "m"
        rw [ef]
        by_cases hz : y % (i + 1) = 0
        · have := at_up hi1 f1 (by omega) hz
          have hb : (((y % (i + 1) : Nat) : Int) != 0) = false := by rw [hz]; rfl
          rw [hb]
          repeat walk_at "m"
          have e : colStep (i + 1) C c = y := by unfold colStep; rw [if_pos e9, this]
          rw [e] at hT₂
          exact m_tu hT₂ hM ⟨tk, rfl, rfl, rfl⟩ (by walk_at "kn")
        · have hb : (((y % (i + 1) : Nat) : Int) != 0) = true := by rw [bne_iff_ne]; omega
          rw [hb]
          repeat walk_at "m"
          refine m_tu hT₃ hM ⟨k - 1, ?_, y + 1, _, rfl, rfl, rfl, fun _ => ?_, fun n => absurd e9 n⟩ (by walk_at "kn")
          · rcases Nat.eq_zero_or_pos k with rfl | hk
            · rw [Nat.add_zero] at f2; rw [← f2] at u3; exact absurd u3 hz
            · omega
          · rcases Nat.eq_zero_or_pos k with rfl | hk
            · rw [Nat.add_zero] at f2; rw [← f2] at u3; exact absurd u3 hz
            · omega
      · repeat walk_at "m"
        have e : colStep (i + 1) C c = y := by unfold colStep; rw [if_neg e9, hn9 e9]
        rw [e] at hT₂
        exact m_tu hT₂ hM ⟨tk, rfl, rfl, rfl⟩ (by walk_at "kn")
    · rintro l₁ W' D' h t ⟨tc', rfl, rfl, rfl⟩ hM
      repeat walk_at "m"
      refine m_tuf hT hM ⟨vs.push _, rfl, by simp [hsz], rfl, rfl⟩ (by walk_at "kn") fun G g f hf => ?_
      rcases List.mem_cons.mp hf with rfl | hf
      · rw [Array.toList_push, natsDa_range_snoc]
        have e : x.cps.toList.take x.cps.size = x.cps.toList := by rw [← Array.length_toList, List.take_length]
        rw [e]
        exact (g _ (.head _)).snoc (.int _ _)
      · exact g f (.tail _ hf)
  · rintro l₁ W' D' h t ⟨vs, rfl, hsz, rfl, rfl⟩ hM
    repeat walk_at "m"
    refine m_fin hR (Mst.freezeL hM (ds := natsDa (cols x)) fun G g => g _ (.head _)) fun hM => q _ _ _ ?_
    rw [List.append_nil] at hM
    exact hM.sub fun f hf => (List.mem_cons.mp hf).elim (fun e => e ▸ .head _) fun hf => .tail _ (.tail _ hf)
/-! ## Whitespace -/
structure WsS where
  b : Nat
  n : Nat
  nt : Nat
  count : List Nat
def bump (l : List Nat) (b : Nat) : List Nat :=
  let l' := if b ≥ l.length then l ++ List.replicate (b - l.length + 1) 0 else l
  l'.set b (l'.getD b 0 + 1)
def wsGo : WsS → List Nat → WsS
  | s, [] => s
  | s, c :: r => if c = 32 then wsGo { s with n := s.n + 1, b := s.b + 1 } r else if c = 9 then wsGo { b := 0, n := s.n + 1, nt := s.nt + 1, count := bump s.count s.b } r else s
def wsOf (x : Str) : WsS := wsGo ⟨0, 0, 0, []⟩ x.cps.toList
def wsNorm (s : WsS) : List Da := [.tup (natsDa s.count), .int s.b]
/-- an instance of Whitespace, told -/
def WsAt (D : Facts) (x : Addr) (s : WsS) : Prop := ∃ dx o N u v raw,
  ([.ref x], [.obj (instObj 107 dx)]) ∈ D ∧ ([.ref dx], [.obj o]) ∈ D ∧ Flds o [("raw", raw), ("n", .int s.n u), ("nt", .int s.nt v), ("norm", .ref N), ("is_simple", .bool (decide (s.count.length ≤ 1)))] ∧ ([.ref N], [.tup (wsNorm s)]) ∈ D
theorem WsAt.mono {D D' : Facts} {x : Addr} {s : WsS} (h : WsAt D x s) (k : ∀ f ∈ D, f ∈ D') : WsAt D' x s := by
  obtain ⟨dx, o, N, u, v, raw, h1, h2, h3, h4⟩ := h
  exact ⟨dx, o, N, u, v, raw, k _ h1, k _ h2, h3, k _ h4⟩
theorem one_sp (c : Nat) : ((⟨#[c]⟩ : Str) == (" " : Str)) = decide (c = 32) := by
  have e : (" " : Str) = ⟨#[32]⟩ := by rfl
  rw [e, Bool.eq_iff_iff, beq_iff_eq, decide_eq_true_eq]
  exact ⟨fun q => by injection q with q; injection q with q; injection q, fun q => by rw [q]⟩
theorem one_tab (c : Nat) : ((⟨#[c]⟩ : Str) == ("\t" : Str)) = decide (c = 9) := by
  have e : ("\t" : Str) = ⟨#[9]⟩ := by rfl
  rw [e, Bool.eq_iff_iff, beq_iff_eq, decide_eq_true_eq]
  exact ⟨fun q => by injection q with q; injection q with q; injection q, fun q => by rw [q]⟩

theorem c_ws {prog : Program} {w : World} {A : Around} {E : Value → Shared → Prop} {H0 : Heap} {B G₀ : Gr} {L : Addr} {m : Loc} {W : Own} {D : Facts} {h : Heap} {g : Array GenState} {d : Drawn} {t : Nat} {os : OsState}
    {x : Str} {tx : Tok} {Q : Value → Shared → Prop} (gd : Gd (KF w.params) H0) (hM : Mst H0 B G₀ L m W D h) (hA : Rm A 10 40) (hx : x.length ≤ 1000)
    (q : ∀ r D' h' t', WsAt D' r (wsOf x) → (∀ f ∈ D, f ∈ D') → Mst H0 B G₀ L m W D' h' → Q (.ref r) ⟨h', g, d, t', os⟩) :
    wpAny (model prog w) A (call (.ref 107) [.str x tx]) Q E ⟨h, g, d, t, os⟩ := by
  refine m_make gd hM (hA.le (d' := 9 + 1) (u' := 33 + 1) (by decide) (by decide)) (ws_makes _) (ws_init _) (by kernel_rfl) fun self dx h A hA hM => ?_
  have hM := hM.last
  refine m_defc gd hM (hA.le (d' := 8 + 1) (u' := 30 + 3) (by decide) (by decide)) (by rfl) (by rfl) (BindsTo.of_eq (binds := [(sx "self", .ref self), (sx "ws", .str x tx)]) (by rfl)) (by rfl) ?_
  clear hM
  intro env A' L' B' G' h t R E' hE hA' hM _ hN
  have C := ws_ok w.params
  obtain ⟨uS, hS⟩ := ws_S w.params
  obtain ⟨uT, hT⟩ := ws_T w.params
  repeat walk_at "m"
  refine m_set gd C hM (by walk_at "mem") (by walk_at "wup") (ws_no_raw _) (by rfl) (of_decide_eq_true rfl) fun h t hM => ?_
  repeat walk_at "m"
  refine m_cls gd hM (ws_reads _) hS (by rfl) ?_
  repeat walk_at "m"
  refine m_cls gd hM (ws_reads _) hT (by rfl) ?_
  repeat walk_at "m"
  refine m_newT hM (ds := [.str " ", .str "\t"]) (by walk_at "fact") (by walk_at "size") fun a h t hM => ?_
  refine m_un2s hA'.h hM (by walk_at "mem") fun v₁ v₂ h t hM => ?_
  obtain ⟨u₁, rfl⟩ := hM.isStr (by walk_at "mem")
  obtain ⟨u₂, rfl⟩ := hM.isStr (v := v₂) (by walk_at "mem")
  repeat walk_at "m"
  refine m_newW hM (by walk_at "size") fun c₀ h t hM => ?_
  repeat walk_at "m"
  refine m_get gd C hM (.own (by walk_at "mem") (by walk_at "mem")) (ws_no_raw _) (by rfl) (by rfl) ?_
  have hM := ((hM.know (l' := [(sx "b", .int (0 : Nat) _), (sx "n", .int (0 : Nat) _), (sx "nt", .int (0 : Nat) _), (sx "count", .ref c₀), (sx "T", .str "\t" u₂), (sx "S", .str " " u₁), (sx "self", .ref self)]) (by walk_at "kn")).lsx).facts (D' := (([] : List Value), natsDa []) :: ([.ref self], [.obj (instObj 107 dx)]) :: D) fun G g f hf => by
    rcases List.mem_cons.mp hf with rfl | hf
    · exact .nil
    rcases List.mem_cons.mp hf with rfl | hf
    · exact g _ (by walk_at "mem")
    · exact g f (.tail _ (.tail _ (.tail _ (.tail _ hf))))
  refine n_strB hA'.h hE (by rfl) hM
    (fun i l W' D' => ∃ (S : WsS) (c : Addr) (vs : Array Value) (t₁ t₂ t₃ : Tok), l = [(sx "b", .int S.b t₁), (sx "n", .int S.n t₂), (sx "nt", .int S.nt t₃), (sx "count", .ref c), (sx "T", .str "\t" u₂), (sx "S", .str " " u₁), (sx "self", .ref self)] ∧
      W' = [(c, .lsx vs), (dx, .flds [(sx "raw", .str x tx)])] ∧ D' = (vs.toList, natsDa S.count) :: ([.ref self], [.obj (instObj 107 dx)]) :: D ∧ wsGo S (x.cps.toList.drop i) = wsOf x ∧ S.b ≤ i ∧ S.count.length ≤ i)
    (fun l W' D' => ∃ (c : Addr) (vs : Array Value) (t₁ t₂ t₃ : Tok), l = [(sx "b", .int (wsOf x).b t₁), (sx "n", .int (wsOf x).n t₂), (sx "nt", .int (wsOf x).nt t₃), (sx "count", .ref c), (sx "T", .str "\t" u₂), (sx "S", .str " " u₁), (sx "self", .ref self)] ∧
      W' = [(c, .lsx vs), (dx, .flds [(sx "raw", .str x tx)])] ∧ D' = (vs.toList, natsDa (wsOf x).count) :: ([.ref self], [.obj (instObj 107 dx)]) :: D ∧ (wsOf x).count.length ≤ x.length)
    ⟨⟨0, 0, 0, []⟩, c₀, #[], _, _, _, rfl, rfl, rfl, rfl, Nat.le_refl _, Nat.le_refl _⟩ ?_ ?_ ?_
  · rintro i c tc l₁ W' D' B₁ G₁ h t E' T hc ⟨S, cn, vs, t₁, t₂, t₃, rfl, rfl, rfl, hgo, hb, hcl⟩ hM hT
    have hdrop : x.cps.toList.drop i = c :: x.cps.toList.drop (i + 1) := by
      have hi := (Array.getElem?_eq_some_iff.mp hc)
      obtain ⟨hi, he⟩ := hi
      rw [List.drop_eq_getElem_cons (by simpa using hi)]
      simp [he]
    have hil : i < 1000 := Nat.lt_of_lt_of_le (Array.getElem?_eq_some_iff.mp hc).1 hx
    rw [hdrop] at hgo
    repeat walk_at "mi"
    rw [one_sp]
    refine Both.cond (fun e => ?_) fun e => ?_
    · repeat walk_at "m"
      exact m_tb_next hT hM ⟨{ S with n := S.n + 1, b := S.b + 1 }, cn, vs, _, _, _, rfl, rfl, rfl, by rw [← hgo, wsGo, if_pos e], Nat.succ_le_succ hb, Nat.le_succ_of_le hcl⟩ (by walk_at "kn") DaKeep
    · repeat walk_at "mi"
      rw [one_tab]
      refine Both.cond (fun e' => ?_) fun e' => ?_
      · repeat walk_at "m"
        have hsz : vs.size = S.count.length := by simpa [natsDa] using hM.has (.head _)
        refine m_ifJ hM (fun l' W' D' => ∃ (cn : Addr) (vs' : Array Value) (t₂ t₃ : Tok), l' = [(sx "nt", .int ((S.nt + 1 : Nat) : Int) t₃), (sx "n", .int ((S.n + 1 : Nat) : Int) t₂), (sx "b", .int S.b t₁), (sx "count", .ref cn), (sx "T", .str "\t" u₂), (sx "S", .str " " u₁), (sx "self", .ref self)] ∧
          W' = [(cn, .lsx vs'), (dx, .flds [(sx "raw", .str x tx)])] ∧ D' = (vs'.toList, natsDa (if S.b ≥ S.count.length then S.count ++ List.replicate (S.b - S.count.length + 1) 0 else S.count)) :: ([.ref self], [.obj (instObj 107 dx)]) :: D) (fun T' hT' => ?_) ?_
        · repeat walk_at "m"
          refine m_lenl hM (by walk_at "lin") (by walk_at "size") fun u => ?_
          repeat walk_at "m"
          refine Both.cond (fun e2 => ?_) fun e2 => ?_
          · have e3 : S.b ≥ S.count.length := by omega
            rw [if_pos e3] at hT'
            repeat walk_at "m"
            refine m_newW hM (by walk_at "size") fun z h t hM => ?_
            repeat walk_at "m"
            refine m_lenl hM (by walk_at "lin") (by walk_at "size") fun u => ?_
            repeat walk_at "m"
            refine m_mull hM (by walk_at "lin") (by omega) (by omega) fun r h t hM => ?_
            refine m_addl hM (by walk_at "lin") (by walk_at "lin") (by simp only [Array.length_toList, List.size_toArray, List.length_replicate]; walk_at "size") fun r' h t hM => ?_
            repeat walk_at "m"
            have hM := (hM.lsx).pick (W' := [(r', _), (dx, _)]) (by walk_at "pick")
            refine m_ifend hT' hM ⟨r', _, _, _, rfl, rfl, rfl⟩ (by walk_at "kn") fun G g f hf => ?_
            rcases List.mem_cons.mp hf with rfl | hf
            · have e4 : ((S.b : Int) - (vs.size : Int) + 1).toNat = S.b - S.count.length + 1 := by omega
              rw [List.toList_toArray, e4]
              unfold natsDa
              rw [List.map_append, List.map_replicate]
              exact (g _ (.head _)).append (.rep (.int _ _) _)
            · exact g f (.tail _ hf)
          · have e3 : ¬ S.b ≥ S.count.length := by omega
            rw [if_neg e3] at hT'
            repeat walk_at "m"
            exact m_ifend hT' hM ⟨cn, vs, _, _, rfl, rfl, rfl⟩ (by walk_at "kn") DaKeep
        · rintro l₁ W' D' h t ⟨cn, vs', t₂, t₃, rfl, rfl, rfl⟩ hM
          repeat walk_at "m"
          generalize he : (if S.b ≥ S.count.length then S.count ++ List.replicate (S.b - S.count.length + 1) 0 else S.count) = ex at hM
          have hlen : S.b < ex.length ∧ ex.length ≤ i + 1 := by
            rw [← he]; split
            · rw [List.length_append, List.length_replicate]; omega
            · omega
          have hvl : vs'.toList.length = ex.length := by simpa [natsDa] using hM.has (.head _)
          rw [Array.length_toList] at hvl
          obtain ⟨vb, hvb, hM⟩ := hM.nth (k := S.b) (d := .int (ex.getD S.b 0 : Nat)) (.head _) (by
            unfold natsDa
            rw [List.getElem?_map, List.getD_eq_getElem?_getD, List.getElem?_eq_getElem hlen.1]; rfl)
          obtain ⟨tb, rfl⟩ := hM.isInt (.head _)
          refine m_iteml hM (by walk_at "lin") (by omega) (by omega) (by rw [Int.toNat_natCast, ← Array.getElem?_toList]; exact hvb) ?_
          repeat walk_at "m"
          refine m_seti hM (wo := .lsx vs') .head (.inr rfl) (by omega) (by omega) (by omega) fun h t hM => ?_
          repeat walk_at "m"
          have hb' : bump S.count S.b = ex.set S.b (ex.getD S.b 0 + 1) := by rw [← he]; rfl
          refine m_tb_next hT hM ⟨{ b := 0, n := S.n + 1, nt := S.nt + 1, count := bump S.count S.b }, cn, _, _, _, _, rfl, rfl, rfl, by rw [← hgo, wsGo, if_neg e, if_pos e'], Nat.zero_le _, by show (bump S.count S.b).length ≤ i + 1; rw [hb', List.length_set]; exact hlen.2⟩ (by walk_at "kn") fun G g f hf => ?_
          rcases List.mem_cons.mp hf with rfl | hf
          · show DaAll G (vs'.setIfInBounds _ _).toList (natsDa (bump S.count S.b))
            rw [hb', Array.toList_setIfInBounds, natsDa, List.map_set, Int.toNat_natCast]
            exact (g _ (.tail _ (.head _))).set _ (.int _ _)
          · exact g f (.tail _ (.tail _ hf))
      · repeat walk_at "m"
        exact m_tb_brk hT hM ⟨cn, vs, _, _, _, by rw [← hgo, wsGo, if_neg e, if_neg e'], rfl, by rw [← hgo, wsGo, if_neg e, if_neg e'], by rw [← hgo, wsGo, if_neg e, if_neg e']; exact Nat.le_trans hcl (Nat.le_of_lt (Array.getElem?_eq_some_iff.mp hc).1)⟩ (by walk_at "kn") DaKeep
  · rintro l₁ W' D' ⟨S, cn, vs, t₁, t₂, t₃, rfl, rfl, rfl, hgo, hb, hcl⟩
    have hd : x.cps.toList.drop x.cps.size = [] := by rw [← Array.length_toList, List.drop_length]
    rw [hd, wsGo] at hgo
    exact ⟨cn, vs, t₁, t₂, t₃, by rw [← hgo], rfl, by rw [← hgo], by rw [← hgo]; exact hcl⟩
  · rintro l₁ W' D' h t ⟨c, vs, t₁, t₂, t₃, rfl, rfl, rfl, hcl⟩ hM
    have hvl : vs.toList.length = (wsOf x).count.length := by simpa [natsDa] using hM.has (.head _)
    rw [Array.length_toList] at hvl
    repeat walk_at "m"
    refine m_set gd C hM (by walk_at "mem") (by walk_at "wup") (ws_no_n _) (by rfl) (of_decide_eq_true rfl) fun h t hM => ?_
    repeat walk_at "m"
    refine m_set gd C hM (by walk_at "mem") (by walk_at "wup") (ws_no_nt _) (by rfl) (of_decide_eq_true rfl) fun h t hM => ?_
    repeat walk_at "m"
    refine m_tupl hM (by walk_at "lin") (ds := natsDa (wsOf x).count) (fun G g => g _ (by walk_at "mem")) (by walk_at "size") fun r h t hM => ?_
    repeat walk_at "m"
    refine m_newT hM (ds := wsNorm (wsOf x)) (by walk_at "fact") (by walk_at "size") fun N h t hM => ?_
    repeat walk_at "m"
    refine m_set gd C hM (by walk_at "mem") (by walk_at "wup") (ws_no_norm _) (by rfl) (of_decide_eq_true rfl) fun h t hM => ?_
    repeat walk_at "m"
    refine m_lenl hM (by walk_at "lin") (by walk_at "size") fun u => ?_
    repeat walk_at "m"
    refine m_set gd C hM (by walk_at "mem") (by walk_at "wup") (ws_no_simple _) (by rfl) (of_decide_eq_true rfl) fun h t hM => ?_
    repeat walk_at "m"
    have hM := hM.pick (W' := [(dx, _)]) (by walk_at "pick")
    refine hN _ (m_end hM fun hM => ⟨rfl, ?_⟩)
    obtain ⟨o, hfl, hM⟩ := hM.first.freezeD
    refine q self _ _ _ ⟨dx, o, N, t₂, t₃, .str x tx, ?_, .head _, ?_, ?_⟩ ?_ hM
    · walk_at "mem"
    · rw [show (decide ((wsOf x).count.length ≤ 1)) = decide ((vs.size : Int) ≤ 1) from by rw [← hvl]; exact decide_eq_decide.mpr (by omega)]
      exact hfl
    · walk_at "mem"
    · intro f hf
      walk_at "mem"
      exact hf
/-! ## Whitespace: its methods -/
theorem ws_f_lr (P : Params) : findIn (KF P) (.ref 107) "longest_run_of_spaces" = some (some (.ref 69)) := by kernel_rfl
theorem ws_f_il (P : Params) : findIn (KF P) (.ref 107) "indent_level" = some (some (.ref 76)) := by kernel_rfl
theorem ws_f_eq (P : Params) : findIn (KF P) (.ref 107) "equal" = some (some (.ref 83)) := by kernel_rfl
theorem ws_f_less (P : Params) : findIn (KF P) (.ref 107) "less" = some (some (.ref 97)) := by kernel_rfl
/-- what is asked of the numbers -/
structure WsFit (s : WsS) : Prop where
  b : s.b ≤ 1000
  n : s.n ≤ 1000
  nt : s.nt ≤ 1000
  len : s.count.length ≤ 1000
def wsLr (s : WsS) : Int := if (s.b : Int) > (s.count.length : Int) - 1 then s.b else s.count.length - 1
theorem c_lr {prog : Program} {w : World} {A : Around} {E : Value → Shared → Prop} {H0 : Heap} {B G₀ : Gr} {L : Addr} {m : Loc} {W : Own} {D : Facts} {h : Heap} {g : Array GenState} {d : Drawn} {t : Nat} {os : OsState}
    {x : Addr} {S : WsS} {Q : Value → Shared → Prop} (gd : Gd (KF w.params) H0) (hM : Mst H0 B G₀ L m W D h) (hA : Rm A 5 20) (hx : WsAt D x S) (hS : WsFit S)
    (q : ∀ u h' t', Mst H0 B G₀ L m W D h' → Q (.int (wsLr S) u) ⟨h', g, d, t', os⟩) :
    wpAny (model prog w) A (call (.ref 69) [.ref x]) Q E ⟨h, g, d, t, os⟩ := by
  have hM' : Mst H0 B G₀ L m (W ++ []) D h := by rw [List.append_nil]; exact hM
  refine m_def gd hM' (hA.le (d' := 4 + 1) (u' := 10 + 3) (by decide) (by decide)) (by rfl) (by rfl) (BindsTo.of_eq (binds := [(sx "self", .ref x)]) (by rfl)) (by rfl) ?_
  clear hM hM'
  intro env A' L' B' G' h t R E' hE hA' hM hR _
  obtain ⟨dx, o, N, u, v, raw, h1, h2, h3, h4⟩ := hx
  obtain ⟨f1, f2, f3, f4⟩ := hS
  repeat walk_at "m"
  refine m_get gd (ws_ok _) hM (.kept h1 h2 h3) (ws_no_norm _) (by rfl) (by rfl) ?_
  refine m_un2 hA'.h hM h4 fun v₁ v₂ h t hM => ?_
  obtain ⟨a, rfl⟩ := hM.isTup (.head _)
  obtain ⟨u₂, rfl⟩ := hM.isInt (v := v₂) (by walk_at "mem")
  repeat walk_at "m"
  refine m_lent hM (by walk_at "mem") (by unfold natsDa; walk_at "size") fun u => ?_
  repeat walk_at "m"
  refine m_max hA'.h hM fun u h t hM => ?_
  repeat walk_at "m"
  refine m_fin hR hM fun hM => ?_
  rw [List.append_nil] at hM
  have e : (natsDa S.count).length = S.count.length := by unfold natsDa; rw [List.length_map]
  rw [e]
  exact q _ _ _ (hM.sub fun f hf => .tail _ (.tail _ hf))

def ilSum (c : List Nat) (ts : Nat) : Nat → Nat
  | 0 => 0
  | n + 1 => ilSum c ts n + (ts + n) / ts * c.getD (ts + n) 0
def wsIl (s : WsS) (ts : Nat) : Nat := s.b + ts * (ilSum s.count ts (s.count.length - ts) + s.nt)
theorem small_ok {a b : Int} (h1 : -(2 ^ 40) < a) (h2 : a < 2 ^ 40) (h3 : -(2 ^ 40) < b) (h4 : b < 2 ^ 40) : Builtin.Range.small a b 1 = true := by
  have f : ∀ x : Int, -(2 ^ 41) < x → x < 2 ^ 41 → Builtin.Range.rangeFitsLong x = true := fun x h1 h2 => by
    unfold Builtin.Range.rangeFitsLong
    simp only [Bool.and_eq_true, decide_eq_true_eq]
    omega
  have hr : -(2 ^ 41) < Builtin.Range.rangeSize a b 1 ∧ Builtin.Range.rangeSize a b 1 < 2 ^ 41 := by
    rw [rangeSize_one]; split <;> omega
  unfold Builtin.Range.small
  rw [f a (by omega) (by omega), f b (by omega) (by omega), f 1 (by omega) (by omega), f _ hr.1 hr.2, if_pos (by decide), f (b + (1 - 1)) (by omega) (by omega)]
  simp
theorem c_il {prog : Program} {w : World} {A : Around} {E : Value → Shared → Prop} {H0 : Heap} {B G₀ : Gr} {L : Addr} {m : Loc} {W : Own} {D : Facts} {h : Heap} {g : Array GenState} {d : Drawn} {t : Nat} {os : OsState}
    {x : Addr} {S : WsS} {ts : Nat} {tt : Tok} {Q : Value → Shared → Prop} (gd : Gd (KF w.params) H0) (hM : Mst H0 B G₀ L m W D h) (hA : Rm A 5 20) (hx : WsAt D x S) (hS : WsFit S) (hts : 0 < ts ∧ ts ≤ 2000)
    (q : ∀ u h' t', Mst H0 B G₀ L m W D h' → Q (.int (wsIl S ts) u) ⟨h', g, d, t', os⟩) :
    wpAny (model prog w) A (call (.ref 76) [.ref x, .int ts tt]) Q E ⟨h, g, d, t, os⟩ := by
  have hM' : Mst H0 B G₀ L m (W ++ []) D h := by rw [List.append_nil]; exact hM
  refine m_def gd hM' (hA.le (d' := 4 + 1) (u' := 10 + 3) (by decide) (by decide)) (by rfl) (by rfl) (BindsTo.of_eq (binds := [(sx "self", .ref x), (sx "tabsize", .int ts tt)]) (by rfl)) (by rfl) ?_
  clear hM hM'
  intro env A' L' B' G' h t R E' hE hA' hM hR _
  obtain ⟨dx, o, N, u, v, raw, h1, h2, h3, h4⟩ := hx
  obtain ⟨f1, f2, f3, f4⟩ := hS
  obtain ⟨t1, t2⟩ := hts
  have e : (natsDa S.count).length = S.count.length := by unfold natsDa; rw [List.length_map]
  repeat walk_at "m"
  refine m_get gd (ws_ok _) hM (.kept h1 h2 h3) (ws_no_norm _) (by rfl) (by rfl) ?_
  refine m_un2 hA'.h hM h4 fun v₁ v₂ h t hM => ?_
  obtain ⟨a, rfl⟩ := hM.isTup (.head _)
  obtain ⟨u₂, rfl⟩ := hM.isInt (v := v₂) (by walk_at "mem")
  repeat walk_at "m"
  refine m_lent hM (by walk_at "mem") (by rw [e]; walk_at "size") fun u => ?_
  rw [e]
  repeat walk_at "m"
  refine m_range hM fun r h t t₁ t₂ t₃ hM hr => ?_
  repeat walk_at "m"
  refine n_range hA'.h hE (by rfl) ((hM.know (l' := [(sx "il", .int (0 : Nat) _), (sx "count", .ref a), (sx "trailing", .int S.b u₂), (sx "self", .ref x), (sx "tabsize", .int ts tt)]) (by walk_at "kn")).sub (D' := ([.ref a], [.tup (natsDa S.count)]) :: D) (by walk_at "sub")) hr (small_ok (by omega) (by omega) (by omega) (by omega)) (S.count.length - ts) (by omega)
    (fun i l W' D' => ∃ tk, l = [(sx "il", .int (ilSum S.count ts i : Nat) tk), (sx "count", .ref a), (sx "trailing", .int S.b u₂), (sx "self", .ref x), (sx "tabsize", .int ts tt)] ∧ W' = [] ∧ D' = ([.ref a], [.tup (natsDa S.count)]) :: D) ⟨_, rfl, rfl, rfl⟩ ?_ ?_
  · rintro i tc l₁ W' D' B₁ G₁ h t E' T hi ⟨tk, rfl, rfl, rfl⟩ hM - hT
    have ei : (ts : Int) + (i : Int) = ((ts + i : Nat) : Int) := by omega
    rw [ei] at hM
    repeat walk_at "m"
    refine m_itemt (ts + i) hM (by walk_at "mem") (by omega) (by omega) (sidx (by rw [e]; omega)) (e := .int (S.count.getD (ts + i) 0 : Nat)) (by
      unfold natsDa
      rw [List.getElem?_map, List.getD_eq_getElem?_getD, List.getElem?_eq_getElem (by omega)]; rfl) fun v hM => ?_
    obtain ⟨tv, rfl⟩ := hM.isInt (.head _)
    have hq : (((ts + i : Nat) : Int).fdiv (ts : Int)) = (((ts + i) / ts : Nat) : Int) := (Int.ofNat_fdiv _ _).symm
    have hle : (ts + i) / ts ≤ ts + i := Nat.div_le_self _ _
    rw [hq]
    obtain ⟨qq, hqq⟩ : ∃ qq, qq = (ts + i) / ts := ⟨_, rfl⟩
    rw [← hqq] at hle ⊢
    repeat walk_at "m"
    have es : ((ilSum S.count ts i : Nat) : Int) + ((qq : Nat) : Int) * ((S.count.getD (ts + i) 0 : Nat) : Int) = ((ilSum S.count ts (i + 1) : Nat) : Int) := by rw [ilSum, Int.natCast_add, Int.natCast_mul, ← hqq]
    rw [es] at hM
    exact m_tuf hT hM ⟨_, rfl, rfl, rfl⟩ (by walk_at "kn") fun G g f hf => g f (.tail _ hf)
  · rintro l₁ W' D' h t ⟨tk, rfl, rfl, rfl⟩ hM
    repeat walk_at "m"
    refine m_get gd (ws_ok _) hM (.kept (.tail _ h1) (.tail _ h2) h3) (ws_no_nt _) (by rfl) (by rfl) ?_
    repeat walk_at "m"
    refine m_fin hR hM fun hM => ?_
    rw [List.append_nil] at hM
    have es : (S.b : Int) + (ts : Int) * (((ilSum S.count ts (S.count.length - ts) : Nat) : Int) + (S.nt : Int)) = (wsIl S ts : Nat) := by unfold wsIl; rw [Int.natCast_add, Int.natCast_mul, Int.natCast_add]
    rw [es]
    exact q _ _ _ (hM.sub fun f hf => .tail _ hf)

theorem pys_nats (l : List Nat) : Da.pys (natsDa l) = l.map fun (n : Nat) => PyData.int n := by
  induction l with
  | nil => rfl
  | cons n l ih => unfold natsDa at ih ⊢; rw [List.map_cons, Da.pys, ih]; rfl
theorem eqvAll_nats : ∀ (l k : List Nat), PyData.eqvAll (l.map fun (n : Nat) => PyData.int n) (k.map fun (n : Nat) => PyData.int n) = decide (l = k)
  | [], [] => rfl
  | [], _ :: _ => rfl
  | _ :: _, [] => rfl
  | a :: l, b :: k => by
    rw [List.map_cons, List.map_cons, PyData.eqvAll, eqvAll_nats l k, PyData.eqv, Bool.eq_iff_iff]
    simp only [Bool.and_eq_true, beq_iff_eq, decide_eq_true_eq, List.cons.injEq, Int.natCast_inj]
theorem pls_nats (l : List Nat) : Da.pls (natsDa l) = true := by
  induction l with
  | nil => rfl
  | cons n l ih => unfold natsDa at ih ⊢; rw [List.map_cons, Da.pls, ih]; rfl
theorem lay_nats (l : List Nat) : PyData.canLayAll0 (l.map fun (n : Nat) => PyData.int n) = true := by
  induction l with
  | nil => rfl
  | cons n l ih => rw [List.map_cons, PyData.canLayAll0, ih]; rfl
theorem dep_nats (l : List Nat) : PyData.depthAll (l.map fun (n : Nat) => PyData.int n) = 0 := by
  induction l with
  | nil => rfl
  | cons n l ih => rw [List.map_cons, PyData.depthAll, ih]; rfl
theorem cm_norm (S : WsS) : Cm (.tup (wsNorm S)) := by
  refine ⟨?_, ?_, ?_⟩
  · simp [wsNorm, Da.pl, Da.pls, pls_nats]
  · simp [wsNorm, Da.py, Da.pys, pys_nats, PyData.canLay0, PyData.canLayAll0, lay_nats]
  · simp [wsNorm, Da.py, Da.pys, pys_nats, PyData.depth, PyData.depthAll, dep_nats]
theorem eqv_norm (S O : WsS) : PyData.eqv (Da.tup (wsNorm S)).py (Da.tup (wsNorm O)).py = decide (S.count = O.count ∧ S.b = O.b) := by
  unfold wsNorm
  simp only [Da.py, Da.pys, pys_nats, PyData.eqv, PyData.eqvAll, eqvAll_nats, Bool.and_true]
  rw [Bool.eq_iff_iff]
  simp only [Bool.and_eq_true, decide_eq_true_eq, beq_iff_eq, Int.natCast_inj]

theorem c_equal {prog : Program} {w : World} {A : Around} {E : Value → Shared → Prop} {H0 : Heap} {B G₀ : Gr} {L : Addr} {m : Loc} {W : Own} {D : Facts} {h : Heap} {g : Array GenState} {d : Drawn} {t : Nat} {os : OsState}
    {x y : Addr} {S O : WsS} {Q : Value → Shared → Prop} (gd : Gd (KF w.params) H0) (hM : Mst H0 B G₀ L m W D h) (hA : Rm A 5 20) (hx : WsAt D x S) (hy : WsAt D y O)
    (q : ∀ h' t', Mst H0 B G₀ L m W D h' → Q (.bool (decide (S.count = O.count ∧ S.b = O.b))) ⟨h', g, d, t', os⟩) :
    wpAny (model prog w) A (call (.ref 83) [.ref x, .ref y]) Q E ⟨h, g, d, t, os⟩ := by
  have hM' : Mst H0 B G₀ L m (W ++ []) D h := by rw [List.append_nil]; exact hM
  refine m_def gd hM' (hA.le (d' := 4 + 1) (u' := 10 + 3) (by decide) (by decide)) (by rfl) (by rfl) (BindsTo.of_eq (binds := [(sx "self", .ref x), (sx "other", .ref y)]) (by rfl)) (by rfl) ?_
  clear hM hM'
  intro env A' L' B' G' h t R E' hE hA' hM hR _
  obtain ⟨dx, o, N, u, v, raw, h1, h2, h3, h4⟩ := hx
  obtain ⟨dy, o', N', u', v', raw', h1', h2', h3', h4'⟩ := hy
  repeat walk_at "m"
  refine m_get gd (ws_ok _) hM (.kept h1 h2 h3) (ws_no_norm _) (by rfl) (by rfl) ?_
  repeat walk_at "m"
  refine m_get gd (ws_ok _) hM (.kept h1' h2' h3') (ws_no_norm _) (by rfl) (by rfl) ?_
  refine m_eqd (hA'.le (d' := 0) (by decide) (by decide)) hM h4 h4' (cm_norm _) (cm_norm _) ?_
  rw [eqv_norm]
  refine m_fin hR hM fun hM => ?_
  rw [List.append_nil] at hM
  exact q _ _ hM

def wsSimple (S : WsS) : Bool := decide (S.count.length ≤ 1)
def wsN (S O : WsS) : Int := (if wsLr O > wsLr S then wsLr O else wsLr S) + 1
def wsLess (S O : WsS) : Bool :=
  if S.n ≥ O.n then false else if wsSimple S && wsSimple O then decide (S.nt ≤ O.nt) else
    (List.range ((wsN S O + 1 - 2).toNat)).all fun j => decide (wsIl S (2 + j) < wsIl O (2 + j))
theorem lr_fits {S : WsS} (h : WsFit S) : -1 ≤ wsLr S ∧ wsLr S ≤ 1000 := by
  obtain ⟨f1, f2, f3, f4⟩ := h
  unfold wsLr; split <;> omega
theorem c_less {prog : Program} {w : World} {A : Around} {E : Value → Shared → Prop} {H0 : Heap} {B G₀ : Gr} {L : Addr} {m : Loc} {W : Own} {D : Facts} {h : Heap} {g : Array GenState} {d : Drawn} {t : Nat} {os : OsState}
    {x y : Addr} {S O : WsS} {Q : Value → Shared → Prop} (gd : Gd (KF w.params) H0) (hM : Mst H0 B G₀ L m W D h) (hA : Rm A 10 40) (hx : WsAt D x S) (hy : WsAt D y O) (fS : WsFit S) (fO : WsFit O)
    (q : ∀ h' t', Mst H0 B G₀ L m W D h' → Q (.bool (wsLess S O)) ⟨h', g, d, t', os⟩) :
    wpAny (model prog w) A (call (.ref 97) [.ref x, .ref y]) Q E ⟨h, g, d, t, os⟩ := by
  have hM' : Mst H0 B G₀ L m (W ++ []) D h := by rw [List.append_nil]; exact hM
  refine m_def gd hM' (hA.le (d' := 9 + 1) (u' := 30 + 3) (by decide) (by decide)) (by rfl) (by rfl) (BindsTo.of_eq (binds := [(sx "self", .ref x), (sx "other", .ref y)]) (by rfl)) (by rfl) ?_
  clear hM hM'
  intro env A' L' B' G' h t R E' hE hA' hM hR _
  have hx' := hx
  have hy' := hy
  obtain ⟨dx, o, N, u, v, raw, h1, h2, h3, h4⟩ := hx
  obtain ⟨dy, o', N', u', v', raw', h1', h2', h3', h4'⟩ := hy
  have C := ws_ok w.params
  have i1 : ∀ W, Inst W D x 107 dx _ := fun W => .kept h1 h2 h3
  have i2 : ∀ W, Inst W D y 107 dy _ := fun W => .kept h1' h2' h3'
  repeat walk_at "mi"
  refine m_get gd C hM (i1 _) (ws_no_n _) (by rfl) (by rfl) ?_
  repeat walk_at "m"
  refine m_get gd C hM (i2 _) (ws_no_n _) (by rfl) (by rfl) ?_
  repeat walk_at "m"
  refine Both.cond (fun e1 => ?_) fun e1 => ?_
  · repeat walk_at "m"
    refine m_fin hR hM fun hM => ?_
    rw [List.append_nil] at hM
    have e : wsLess S O = false := by unfold wsLess; rw [if_pos (by omega)]
    rw [← e]
    exact q _ _ hM
  repeat walk_at "m"
  refine m_ifR hM (fun l' W' D' => l' = [(sx "other", .ref y), (sx "self", .ref x)] ∧ W' = [] ∧ D = D' ∧ (wsSimple S && wsSimple O) = false) (fun T hTn hTr => ?_) ?_
  · repeat walk_at "m"
    refine m_get gd C hM (i1 _) (ws_no_simple _) (by rfl) (by rfl) ?_
    repeat walk_at "m"
    refine Both.cond (fun e2 => ?_) fun e2 => ?_
    · repeat walk_at "m"
      refine m_get gd C hM (i2 _) (ws_no_simple _) (by rfl) (by rfl) ?_
      repeat walk_at "m"
      refine Both.cond (fun e3 => ?_) fun e3 => ?_
      · repeat walk_at "m"
        refine m_get gd C hM (i1 _) (ws_no_nt _) (by rfl) (by rfl) ?_
        repeat walk_at "m"
        refine m_get gd C hM (i2 _) (ws_no_nt _) (by rfl) (by rfl) ?_
        repeat walk_at "m"
        refine hTr _ _ (Then.ret (m_fin hR hM fun hM => ?_))
        rw [List.append_nil] at hM
        have e : wsLess S O = decide ((S.nt : Int) ≤ (O.nt : Int)) := by
          unfold wsLess wsSimple
          rw [if_neg (by omega), if_pos (by rw [decide_eq_true e2, decide_eq_true e3]; rfl)]
          exact decide_eq_decide.mpr (by omega)
        rw [← e]
        exact q _ _ hM
      · repeat walk_at "m"
        refine m_ifend hTn hM ⟨rfl, rfl, rfl, ?_⟩ (by walk_at "kn") DaKeep
        unfold wsSimple; rw [decide_eq_false e3, Bool.and_false]
    · repeat walk_at "m"
      refine m_ifend hTn hM ⟨rfl, rfl, rfl, ?_⟩ (by walk_at "kn") DaKeep
      unfold wsSimple; rw [decide_eq_false e2, Bool.false_and]
  · rintro l₁ W' D' h t ⟨rfl, rfl, rfl, hs⟩ hM
    repeat walk_at "m"
    refine m_gmeth gd C hM (i1 _) (ws_f_lr _) (by kernel_rfl) (by rfl) ?_
    repeat walk_at "m"
    refine c_lr gd hM (hA'.le (by decide) (by decide)) hx' fS fun u h t hM => ?_
    repeat walk_at "m"
    refine m_gmeth gd C hM (i2 _) (ws_f_lr _) (by kernel_rfl) (by rfl) ?_
    repeat walk_at "m"
    refine c_lr gd hM (hA'.le (by decide) (by decide)) hy' fO fun u h t hM => ?_
    repeat walk_at "m"
    refine m_max hA'.h hM fun u h t hM => ?_
    repeat walk_at "m"
    refine m_range hM fun r h t t₁ t₂ t₃ hM hr => ?_
    have l1 := lr_fits fS
    have l2 := lr_fits fO
    have ln : wsN S O ≤ 1001 ∧ 0 ≤ wsN S O := by unfold wsN; split <;> omega
    have en : (if wsLr O > wsLr S then wsLr O else wsLr S) + 1 = wsN S O := rfl
    rw [en] at hr hM
    refine n_range hA'.h hE (by rfl) (hM.know (l' := [(sx "other", .ref y), (sx "self", .ref x)]) (by walk_at "kn")) hr (small_ok (by omega) (by omega) (by omega) (by omega)) ((wsN S O + 1 - 2).toNat) rfl
      (fun i l W' D' => l = [(sx "other", .ref y), (sx "self", .ref x)] ∧ W' = [] ∧ D = D' ∧ ∀ j, j < i → wsIl S (2 + j) < wsIl O (2 + j)) ⟨rfl, rfl, rfl, fun _ h => absurd h (Nat.not_lt_zero _)⟩ ?_ ?_
    · rintro i tc l₁ W' D' B₁ G₁ h t E' T hi ⟨rfl, rfl, rfl, hj⟩ hM back hT
      have ei : (2 : Int) + (i : Int) = ((2 + i : Nat) : Int) := by omega
      rw [ei] at hM
      repeat walk_at "mi"
      refine m_gmeth gd C hM (i1 _) (ws_f_il _) (by kernel_rfl) (by rfl) ?_
      repeat walk_at "m"
      refine c_il gd hM (hA'.le (by decide) (by decide)) hx' fS (by omega) fun u h t hM => ?_
      repeat walk_at "m"
      refine m_gmeth gd C hM (i2 _) (ws_f_il _) (by kernel_rfl) (by rfl) ?_
      repeat walk_at "m"
      refine c_il gd hM (hA'.le (by decide) (by decide)) hy' fO (by omega) fun u h t hM => ?_
      repeat walk_at "m"
      refine Both.cond (fun e2 => ?_) fun e2 => ?_
      · repeat walk_at "m"
        refine hT.ret _ _ (Then.ret (m_fin hR (back _ _ _ _ hM) fun hM => ?_))
        rw [List.append_nil] at hM
        have e : wsLess S O = false := by
          unfold wsLess
          rw [if_neg (by omega), if_neg (by rw [hs]; decide), List.all_eq_false]
          exact ⟨i, List.mem_range.mpr hi, by rw [decide_eq_true_eq]; omega⟩
        rw [← e]
        exact q _ _ hM
      · repeat walk_at "m"
        refine m_tu hT hM ⟨rfl, rfl, rfl, fun j hjl => ?_⟩ (by walk_at "kn")
        rcases Nat.lt_succ_iff_lt_or_eq.mp hjl with h | rfl
        · exact hj j h
        · omega
    · rintro l₁ W' D' h t ⟨rfl, rfl, rfl, hj⟩ hM
      repeat walk_at "m"
      refine m_fin hR hM fun hM => ?_
      rw [List.append_nil] at hM
      have e : wsLess S O = true := by
        unfold wsLess
        rw [if_neg (by omega), if_neg (by rw [hs]; decide), List.all_eq_true]
        exact fun j hjm => decide_eq_true (hj j (List.mem_range.mp hjm))
      rw [← e]
      exact q _ _ hM
/-! ## Headers -/
theorem hd_f_cst (P : Params) : findIn (KF P) (.ref 255) "_convert_string_type" = some (some (.ref 156)) := by kernel_rfl
/-- a text that a header may be -/
def Fine (b : Bool) (x : Str) : Prop := findsNone (if b then nameCode else valueCode) x = true
theorem c_cst {prog : Program} {w : World} {A : Around} {E : Value → Shared → Prop} {H0 : Heap} {B G₀ : Gr} {L : Addr} {m : Loc} {W : Own} {D : Facts} {h : Heap} {g : Array GenState} {d : Drawn} {t : Nat} {os : OsState}
    {a : Addr} {x : Str} {tx : Tok} {b : Bool} {Q : Value → Shared → Prop} (gd : Gd (KF w.params) H0) (hM : Mst H0 B G₀ L m W D h) (hA : Rm A 5 20) (hx : Fine b x)
    (q : ∀ h' t', Mst H0 B G₀ L m W D h' → Q (.str x tx) ⟨h', g, d, t', os⟩) :
    wpAny (model prog w) A (call (.ref 156) [.ref a, .str x tx] [(sx "name", .bool b)]) Q E ⟨h, g, d, t, os⟩ := by
  have hM' : Mst H0 B G₀ L m (W ++ []) D h := by rw [List.append_nil]; exact hM
  refine m_def gd hM' (hA.le (d' := 4 + 1) (u' := 10 + 3) (by decide) (by decide)) (by rfl) (by rfl) (BindsTo.of_eq (binds := [(sx "self", .ref a), (sx "value", .str x tx), (sx "name", .bool b)]) (by rfl)) (by rfl) ?_
  clear hM hM'
  intro env A' L' B' G' h t R E' hE hA' hM hR _
  repeat walk_at "mi"
  rw [beq_self_eq_true]
  repeat walk_at "mi"
  cases b with
  | true =>
    repeat walk_at "mi"
    obtain ⟨v1, v2, v3, v4, t6, tg, items, n, oc, e1, e2, e3, e4⟩ := nameCode_is w.params
    refine m_gm_search gd hM (o := ko121 w.params) (by rfl) (by rfl) (by rfl) ?_
    repeat walk_at "mi"
    refine m_search gd hM (o := ko121 w.params) (by rfl) (by rfl) e1 e2 e3 (by rw [e4]; exact hx) ?_
    repeat walk_at "mi"
    refine m_fin hR hM fun hM => ?_
    rw [List.append_nil] at hM
    exact q _ _ hM
  | false =>
    repeat walk_at "mi"
    obtain ⟨v1, v2, v3, v4, t6, tg, items, n, oc, e1, e2, e3, e4⟩ := valueCode_is w.params
    refine m_gm_search gd hM (o := ko126 w.params) (by rfl) (by rfl) (by rfl) ?_
    repeat walk_at "mi"
    refine m_search gd hM (o := ko126 w.params) (by rfl) (by rfl) e1 e2 e3 (by rw [e4]; exact hx) ?_
    repeat walk_at "mi"
    refine m_fin hR hM fun hM => ?_
    rw [List.append_nil] at hM
    exact q _ _ hM
/-! ## Headers: making one -/
/-- a table, its list told -/
def TabAt (D : Facts) (x lst : Addr) : Prop := ∃ dx o, ([.ref x], [.obj (instObj 255 dx)]) ∈ D ∧ ([.ref dx], [.obj o]) ∈ D ∧ Flds o [(sx "_headers", .ref lst)]
theorem TabAt.mono {D D' : Facts} {x lst : Addr} (h : TabAt D x lst) (k : ∀ f ∈ D, f ∈ D') : TabAt D' x lst := by
  obtain ⟨dx, o, h1, h2, h3⟩ := h
  exact ⟨dx, o, k _ h1, k _ h2, h3⟩
def FineRow (r : Row) : Prop := Fine true r.1 ∧ Fine false r.2
theorem rows_two {rs : List Row} : ∀ (i : Nat) (d : Da), (rs.map rowDa)[i]? = some d → ∃ d₁ d₂, d = Da.tup [d₁, d₂] := fun i d h => by
  rw [List.getElem?_map] at h
  obtain ⟨r, _, rfl⟩ := Option.map_eq_some_iff.mp h
  exact ⟨_, _, rfl⟩
theorem c_hdL {prog : Program} {w : World} {A : Around} {E : Value → Shared → Prop} {H0 : Heap} {B G₀ : Gr} {L : Addr} {m : Loc} {W : Own} {D : Facts} {h : Heap} {g : Array GenState} {d : Drawn} {t : Nat} {os : OsState}
    {lst : Addr} {vs : Array Value} {rs : List Row} {Q : Value → Shared → Prop} (gd : Gd (KF w.params) H0) (hM : Mst H0 B G₀ L m ((lst, .lst vs) :: W) D h) (hA : Rm A 10 40) (hf : (vs.toList, rs.map rowDa) ∈ D) (hrs : ∀ r ∈ rs, FineRow r)
    (q : ∀ x D' h' t', TabAt D' x lst → (∀ f ∈ D, f ∈ D') → Mst H0 B G₀ L m ((lst, .lst vs) :: W) D' h' → Q (.ref x) ⟨h', g, d, t', os⟩) :
    wpAny (model prog w) A (call (.ref 255) [.ref lst]) Q E ⟨h, g, d, t, os⟩ := by
  refine m_make gd hM (hA.le (d' := 9 + 1) (u' := 33 + 1) (by decide) (by decide)) (hd_makes _) (hd_init _) (by kernel_rfl) fun self dx h A hA hM => ?_
  have hM := hM.last2
  refine m_defc gd hM (hA.le (d' := 8 + 1) (u' := 30 + 3) (by decide) (by decide)) (by rfl) (by rfl) (binds_K (binds := [(sx "self", .ref self), (sx "headers", .ref lst)]) (gd.X.keeps hM.low) rfl (by rfl) (by rfl) (by rfl) (by rfl)) (by rfl) ?_
  clear hM
  intro env A' L' B' G' h t R E' hE hA' hM _ hN
  have C := hd_ok w.params
  repeat walk_at "mi"
  rw [show ((Value.ref lst == Value.none) : Bool) = false from rfl]
  repeat walk_at "mi"
  refine m_typel (hM.lst (.own (by walk_at "mem"))) ?_
  repeat walk_at "mi"
  rw [show ((Value.type "list" == Value.type "list") : Bool) = true from beq_self_eq_true _]
  repeat walk_at "mi"
  refine m_set gd C hM (by walk_at "mem") (by walk_at "wup") (hd_no_headers _) (by rfl) (of_decide_eq_true rfl) fun h t hM => ?_
  repeat walk_at "mi"
  have hM' := (hM.know (l' := [(sx "headers", .ref lst), (sx "self", .ref self)]) (by walk_at "kn")).swap2
  have hM' : Mst H0 B' G' L' _ ([(lst, _)] ++ [(dx, _)]) _ h := hM'
  refine n_list2 hA'.h hE (by rfl) (by rfl) hM' (hM.lst (.own (by walk_at "mem"))) (hM.own _ (.tail _ (.head _))).2.2 (fun p hp e => by
      have := hM'.nd
      rw [List.mem_singleton.mp hp] at e
      simp at this
      exact this e.symm) rows_two
    (fun i l W' D' => l = [(sx "headers", .ref lst), (sx "self", .ref self)] ∧ W' = [(dx, .flds [(sx "_headers", .ref lst)])] ∧ D' = ([.ref self], [.obj (instObj 255 dx)]) :: D) (fun i l W' D' j => by obtain ⟨-, -, rfl⟩ := j; exact .tail _ hf) ⟨rfl, rfl, rfl⟩ ?_ ?_
  · rintro i d₁ d₂ v₁ v₂ l₁ W' D' B₁ G₁ h t E' T hd ⟨rfl, rfl, rfl⟩ hM back hT
    rw [List.getElem?_map] at hd
    obtain ⟨r, hr, e⟩ := Option.map_eq_some_iff.mp hd
    cases e
    have hfr := hrs r (List.mem_of_getElem? hr)
    obtain ⟨u₁, rfl⟩ := hM.isStr (.head _)
    obtain ⟨u₂, rfl⟩ := hM.isStr (v := v₂) (.tail _ (.head _))
    repeat walk_at "mi"
    refine m_gmeth gd C hM (.own (by walk_at "mem") (by walk_at "mem")) (hd_f_cst _) (by kernel_rfl) (by rfl) ?_
    repeat walk_at "mi"
    refine c_cst gd hM (hA'.le (by decide) (by decide)) hfr.1 fun h t hM => ?_
    show Then _ _ _ _ _ _ _ _
    repeat walk_at "mi"
    refine m_gmeth gd C hM (.own (by walk_at "mem") (by walk_at "mem")) (hd_f_cst _) (by kernel_rfl) (by rfl) ?_
    repeat walk_at "mi"
    refine c_cst gd hM (hA'.le (by decide) (by decide)) hfr.2 fun h t hM => ?_
    show Then _ _ _ _ _ _ _ _
    repeat walk_at "mi"
    exact m_tuf hT hM ⟨rfl, rfl, rfl⟩ (by walk_at "kn") fun G g f hf => g f (.tail _ (.tail _ hf))
  · rintro l₁ W' D' h t ⟨rfl, rfl, rfl⟩ hM
    repeat walk_at "mi"
    refine hN _ (m_end hM fun hM => ⟨rfl, ?_⟩)
    obtain ⟨o, hfl, hM⟩ := (Mst.first2 hM).swap2.freezeD
    exact q _ _ _ _ ⟨dx, o, .tail _ (.head _), .head _, hfl⟩ (fun f hf => .tail _ (.tail _ hf)) hM
theorem c_hd0 {prog : Program} {w : World} {A : Around} {E : Value → Shared → Prop} {H0 : Heap} {B G₀ : Gr} {L : Addr} {m : Loc} {W : Own} {D : Facts} {h : Heap} {g : Array GenState} {d : Drawn} {t : Nat} {os : OsState}
    {Q : Value → Shared → Prop} (gd : Gd (KF w.params) H0) (hM : Mst H0 B G₀ L m W D h) (hA : Rm A 10 40)
    (q : ∀ x lst D' h' t', TabAt D' x lst → (∀ f ∈ D, f ∈ D') → Mst H0 B G₀ L m ((lst, .lst #[]) :: W) D' h' → Q (.ref x) ⟨h', g, d, t', os⟩) :
    wpAny (model prog w) A (call (.ref 255) []) Q E ⟨h, g, d, t, os⟩ := by
  refine m_make gd hM (hA.le (d' := 9 + 1) (u' := 33 + 1) (by decide) (by decide)) (hd_makes _) (hd_init _) (by kernel_rfl) fun self dx h A hA hM => ?_
  have hM := hM.last
  refine m_defc gd hM (hA.le (d' := 8 + 1) (u' := 30 + 3) (by decide) (by decide)) (by rfl) (by rfl) (binds_K (binds := [(sx "self", .ref self), (sx "headers", .none)]) (gd.X.keeps hM.low) rfl (by rfl) (by rfl) (by rfl) (by rfl)) (by rfl) ?_
  clear hM
  intro env A' L' B' G' h t R E' hE hA' hM _ hN
  have C := hd_ok w.params
  repeat walk_at "mi"
  rw [show ((Value.none == Value.none) : Bool) = true from rfl]
  repeat walk_at "mi"
  refine m_newW hM (by walk_at "size") fun lst h t hM => ?_
  repeat walk_at "mi"
  refine m_typel (hM.lst (.own (by walk_at "mem"))) ?_
  repeat walk_at "mi"
  rw [show ((Value.type "list" == Value.type "list") : Bool) = true from beq_self_eq_true _]
  repeat walk_at "mi"
  refine m_set gd C hM (by walk_at "mem") (by walk_at "wup") (hd_no_headers _) (by rfl) (of_decide_eq_true rfl) fun h t hM => ?_
  repeat walk_at "mi"
  have hM' := (hM.know (l' := [(sx "headers", .ref lst), (sx "self", .ref self)]) (by walk_at "kn")).with (f := ([], [])) fun _ _ => .nil
  have hM' : Mst H0 B' G' L' _ ([(lst, .lst #[]), (dx, _)] ++ []) _ h := hM'
  refine n_list2 (ds := []) hA'.h hE (by rfl) (by rfl) hM' (hM.lst (.own (by walk_at "mem"))) (hM.own _ (.head _)).2.2 (fun _ h => by cases h) (fun _ _ h => by cases h)
    (fun i l W' D' => l = [(sx "headers", .ref lst), (sx "self", .ref self)] ∧ W' = [] ∧ D' = ([], []) :: ([.ref self], [.obj (instObj 255 dx)]) :: D) (fun i l W' D' j => by obtain ⟨-, -, rfl⟩ := j; exact .head _) ⟨rfl, rfl, rfl⟩ ?_ ?_
  · rintro i d₁ d₂ v₁ v₂ l₁ W' D' B₁ G₁ h t E' T hd
    cases hd
  · rintro l₁ W' D' h t ⟨rfl, rfl, rfl⟩ hM
    repeat walk_at "mi"
    refine hN _ (m_end hM fun hM => ⟨rfl, ?_⟩)
    obtain ⟨o, hfl, hM⟩ := (Mst.first2 hM).swap2.freezeD
    exact q _ _ _ _ _ ⟨dx, o, .tail _ (.tail _ (.head _)), .head _, hfl⟩ (fun f hf => .tail _ (.tail _ (.tail _ hf))) hM

/-! ## Headers: looking -/
theorem hd_f_get (P : Params) : findIn (KF P) (.ref 255) "get" = some (some (.ref 202)) := by kernel_rfl
theorem TabAt.inst {D : Facts} {x lst : Addr} (h : TabAt D x lst) : ∃ dx fl, (∀ W, Inst W D x 255 dx fl) ∧ fl = [(sx "_headers", .ref lst)] := by
  obtain ⟨dx, o, h1, h2, h3⟩ := h
  exact ⟨dx, _, fun _ => .kept h1 h2 h3, rfl⟩
theorem c_len {prog : Program} {w : World} {A : Around} {E : Value → Shared → Prop} {H0 : Heap} {B G₀ : Gr} {L : Addr} {m : Loc} {W : Own} {D : Facts} {h : Heap} {g : Array GenState} {d : Drawn} {t : Nat} {os : OsState}
    {x lst : Addr} {vs : Array Value} {Q : Value → Shared → Prop} (gd : Gd (KF w.params) H0) (hM : Mst H0 B G₀ L m ((lst, .lst vs) :: W) D h) (hA : Rm A 5 20) (hx : TabAt D x lst) (hsz : vs.size ≤ 1000)
    (q : ∀ u h' t', Mst H0 B G₀ L m ((lst, .lst vs) :: W) D h' → Q (.int vs.size u) ⟨h', g, d, t', os⟩) :
    wpAny (model prog w) A (call (.ref 163) [.ref x]) Q E ⟨h, g, d, t, os⟩ := by
  have hM' : Mst H0 B G₀ L m ([] ++ ((lst, .lst vs) :: W)) D h := hM
  refine m_def gd hM' (hA.le (d' := 4 + 1) (u' := 10 + 3) (by decide) (by decide)) (by rfl) (by rfl) (BindsTo.of_eq (binds := [(sx "self", .ref x)]) (by rfl)) (by rfl) ?_
  clear hM hM'
  intro env A' L' B' G' h t R E' hE hA' hM hR _
  obtain ⟨dx, fl, hi, rfl⟩ := hx.inst
  repeat walk_at "mi"
  refine m_get gd (hd_ok _) hM (hi _) (hd_no_headers _) (by rfl) (by rfl) ?_
  repeat walk_at "mi"
  refine m_lenl hM (.own (.head _)) (by walk_at "size") fun u => ?_
  exact m_fin hR hM fun hM => q _ _ _ hM
/-- the first lead under a name -/
def getRows (rs : List Row) (nm : Str) : Option Str := (rs.find? fun r => Txt.lower r.1 == nm).map (·.2)
def optDa : Option Str → Da → Da
  | some x, _ => .str x
  | none, d => d
/-- a name that a header may have -/
structure NameOk (x : Str) : Prop where
  len : x.length ≤ 1000
  fine : Fine true x
  low : Fine true (Txt.lower x)
/-- rows that a table may hold -/
structure RowOk (r : Row) : Prop where
  name : NameOk r.1
  lead : Fine false r.2
  len : r.2.length ≤ 1000
theorem take_snoc' {α : Type} {l : List α} {i : Nat} {a : α} (h : l[i]? = some a) : l.take (i + 1) = l.take i ++ [a] := by
  rw [List.take_add_one, h]; rfl
theorem c_get {prog : Program} {w : World} {A : Around} {E : Value → Shared → Prop} {H0 : Heap} {B G₀ : Gr} {L : Addr} {m : Loc} {W : Own} {D : Facts} {h : Heap} {g : Array GenState} {d : Drawn} {t : Nat} {os : OsState}
    {x lst : Addr} {vs : Array Value} {rs : List Row} {nm : Str} {tn : Tok} {more : List Value} {dv : Value} {dd : Da} {Q : Value → Shared → Prop} (gd : Gd (KF w.params) H0) (hM : Mst H0 B G₀ L m ((lst, .lst vs) :: W) D h) (hA : Rm A 10 40) (hx : TabAt D x lst)
    (hf : (vs.toList, rs.map rowDa) ∈ D) (hrs : ∀ r ∈ rs, RowOk r) (hn : NameOk nm) (hmore : (more = [] ∧ dv = .none) ∨ more = [dv]) (hdv : ([dv], [dd]) ∈ D)
    (q : ∀ v h' t', Mst H0 B G₀ L m ((lst, .lst vs) :: W) (([v], [optDa (getRows rs (Txt.lower nm)) dd]) :: D) h' → Q v ⟨h', g, d, t', os⟩) :
    wpAny (model prog w) A (call (.ref 202) (.ref x :: .str nm tn :: more)) Q E ⟨h, g, d, t, os⟩ := by
  have hM' : Mst H0 B G₀ L m ([] ++ ((lst, .lst vs) :: W)) D h := hM
  refine m_def (binds := [(sx "self", .ref x), (sx "name", .str nm tn), (sx "default", dv)]) gd hM' (hA.le (d' := 9 + 1) (u' := 30 + 3) (by decide) (by decide)) (by rfl) (by rfl) ?hb (by rfl) ?_
  case hb =>
    rcases hmore with ⟨rfl, rfl⟩ | rfl
    · exact binds_K (gd.X.keeps hM.low) rfl (by rfl) (by rfl) (by rfl) (by rfl)
    · exact binds_K (gd.X.keeps hM.low) rfl (by rfl) (by rfl) (by rfl) (by rfl)
  clear hM hM'
  intro env A' L' B' G' h t R E' hE hA' hM hR _
  obtain ⟨dx, fl, hi, rfl⟩ := hx.inst
  have C := hd_ok w.params
  have hn1 := hn.len
  repeat walk_at "mi"
  refine m_gmeth gd C hM (hi _) (hd_f_cst _) (by kernel_rfl) (by rfl) ?_
  repeat walk_at "mi"
  refine c_cst gd hM (hA'.le (by decide) (by decide)) hn.low fun h t hM => ?_
  repeat walk_at "mi"
  refine m_get gd C hM (hi _) (hd_no_headers _) (by rfl) (by rfl) ?_
  have hM' := hM.know (l' := [(sx "name", .str (Txt.lower nm) _), (sx "self", .ref x), (sx "default", dv)]) (by walk_at "kn")
  have hM' := hM'.app0
  have hsz : vs.size = rs.length := by simpa using hM.has hf
  refine n_list2 hA'.h hE (by rfl) (by rfl) hM' (hM.lst (.own (.head _))) (hM.own _ (.head _)).2.2 (fun _ h => by cases h) rows_two
    (fun i l W' D' => l = [(sx "name", .str (Txt.lower nm) _), (sx "self", .ref x), (sx "default", dv)] ∧ W' = [] ∧ D = D' ∧ (rs.take i).find? (fun r => Txt.lower r.1 == Txt.lower nm) = none) (fun i l W' D' j => by obtain ⟨-, -, rfl, -⟩ := j; exact hf) ⟨rfl, rfl, rfl, rfl⟩ ?_ ?_
  · rintro i d₁ d₂ v₁ v₂ l₁ W' D' B₁ G₁ h t E' T hd ⟨rfl, rfl, rfl, hno⟩ hM back hT
    rw [List.getElem?_map] at hd
    obtain ⟨r, hr, e⟩ := Option.map_eq_some_iff.mp hd
    cases e
    have hfr := hrs r (List.mem_of_getElem? hr)
    have hl1 := hfr.name.len
    obtain ⟨u₁, rfl⟩ := hM.isStr (.head _)
    obtain ⟨u₂, rfl⟩ := hM.isStr (v := v₂) (.tail _ (.head _))
    repeat walk_at "mi"
    refine Both.of (fun e => ?_) fun e => ?_
    · repeat walk_at "mi"
      refine hT.ret _ _ (Then.ret (m_fin hR (back _ _ _ _ hM) fun hM => q _ _ _ ?_))
      have eg : getRows rs (Txt.lower nm) = some r.2 := by
        unfold getRows
        have hs : rs = rs.take i ++ r :: rs.drop (i + 1) := by
          have := List.take_append_drop i rs
          rw [List.drop_eq_getElem_cons (List.getElem?_eq_some_iff.mp hr).1] at this
          rw [(List.getElem?_eq_some_iff.mp hr).2] at this
          exact this.symm
        rw [hs, List.find?_append, hno, List.find?_cons, e]; rfl
      rw [eg]
      have hM := Mst.un0 hM
      exact Mst.sub hM fun f hf => by
        rcases List.mem_cons.mp hf with rfl | hf
        · exact .tail _ (.head _)
        · exact .tail _ (.tail _ hf)
    · repeat walk_at "mi"
      refine hT.next _ _ _ _ _ ((hM.know (l' := [(sx "name", .str (Txt.lower nm) _), (sx "self", .ref x), (sx "default", dv)]) (by walk_at "kn")).sub (D' := D) fun f hf => .tail _ (.tail _ hf)) ⟨rfl, rfl, rfl, ?_⟩
      rw [take_snoc' hr, List.find?_append, hno, List.find?_cons, e]; rfl
  · rintro l₁ W' D' h t ⟨rfl, rfl, rfl, hno⟩ hM
    rw [List.append_nil] at hM
    repeat walk_at "mi"
    refine m_fin hR hM fun hM => q _ _ _ ?_
    have eg : getRows rs (Txt.lower nm) = none := by
      unfold getRows
      rw [hsz, List.take_length] at hno
      rw [hno]; rfl
    rw [eg]
    exact hM.with fun G g => g _ hdv
theorem c_getitem {prog : Program} {w : World} {A : Around} {E : Value → Shared → Prop} {H0 : Heap} {B G₀ : Gr} {L : Addr} {m : Loc} {W : Own} {D : Facts} {h : Heap} {g : Array GenState} {d : Drawn} {t : Nat} {os : OsState}
    {x lst : Addr} {vs : Array Value} {rs : List Row} {nm : Str} {tn : Tok} {Q : Value → Shared → Prop} (gd : Gd (KF w.params) H0) (hM : Mst H0 B G₀ L m ((lst, .lst vs) :: W) D h) (hA : Rm A 12 50) (hx : TabAt D x lst)
    (hf : (vs.toList, rs.map rowDa) ∈ D) (hrs : ∀ r ∈ rs, RowOk r) (hn : NameOk nm)
    (q : ∀ v h' t', Mst H0 B G₀ L m ((lst, .lst vs) :: W) (([v], [optDa (getRows rs (Txt.lower nm)) .none]) :: D) h' → Q v ⟨h', g, d, t', os⟩) :
    wpAny (model prog w) A (call (.ref 182) [.ref x, .str nm tn]) Q E ⟨h, g, d, t, os⟩ := by
  have hM' : Mst H0 B G₀ L m ([] ++ ((lst, .lst vs) :: W)) D h := hM
  refine m_def (binds := [(sx "self", .ref x), (sx "name", .str nm tn)]) gd hM' (hA.le (d' := 11 + 1) (u' := 44 + 3) (by decide) (by decide)) (by rfl) (by rfl) (BindsTo.of_eq (by rfl)) (by rfl) ?_
  clear hM hM'
  intro env A' L' B' G' h t R E' hE hA' hM hR _
  obtain ⟨dx, fl, hi, rfl⟩ := hx.inst
  have C := hd_ok w.params
  repeat walk_at "mi"
  refine m_gmeth gd C hM (hi _) (hd_f_get _) (by kernel_rfl) (by rfl) ?_
  repeat walk_at "mi"
  refine c_get gd (hM.with (f := ([.none], [.none])) fun _ _ => .one .none) (hA'.le (by decide) (by decide)) (hx.mono fun _ h => .tail _ h) (.tail _ hf) hrs hn (.inl ⟨rfl, rfl⟩) (.head _) fun v h t hM => ?_
  refine m_fin hR hM fun hM => q _ _ _ (Mst.sub hM fun f hf => ?_)
  rcases List.mem_cons.mp hf with rfl | hf
  · exact .head _
  · exact .tail _ (.tail _ hf)
theorem c_contains {prog : Program} {w : World} {A : Around} {E : Value → Shared → Prop} {H0 : Heap} {B G₀ : Gr} {L : Addr} {m : Loc} {W : Own} {D : Facts} {h : Heap} {g : Array GenState} {d : Drawn} {t : Nat} {os : OsState}
    {x lst : Addr} {vs : Array Value} {rs : List Row} {nm : Str} {tn : Tok} {Q : Value → Shared → Prop} (gd : Gd (KF w.params) H0) (hM : Mst H0 B G₀ L m ((lst, .lst vs) :: W) D h) (hA : Rm A 12 50) (hx : TabAt D x lst)
    (hf : (vs.toList, rs.map rowDa) ∈ D) (hrs : ∀ r ∈ rs, RowOk r) (hn : NameOk nm)
    (q : ∀ h' t', Mst H0 B G₀ L m ((lst, .lst vs) :: W) D h' → Q (.bool (getRows rs (Txt.lower nm)).isSome) ⟨h', g, d, t', os⟩) :
    wpAny (model prog w) A (call (.ref 189) [.ref x, .str nm tn]) Q E ⟨h, g, d, t, os⟩ := by
  have hM' : Mst H0 B G₀ L m ([] ++ ((lst, .lst vs) :: W)) D h := hM
  refine m_def (binds := [(sx "self", .ref x), (sx "name", .str nm tn)]) gd hM' (hA.le (d' := 11 + 1) (u' := 44 + 3) (by decide) (by decide)) (by rfl) (by rfl) (BindsTo.of_eq (by rfl)) (by rfl) ?_
  clear hM hM'
  intro env A' L' B' G' h t R E' hE hA' hM hR _
  obtain ⟨dx, fl, hi, rfl⟩ := hx.inst
  have C := hd_ok w.params
  repeat walk_at "mi"
  refine m_gmeth gd C hM (hi _) (hd_f_get _) (by kernel_rfl) (by rfl) ?_
  repeat walk_at "mi"
  refine c_get gd (hM.with (f := ([.none], [.none])) fun _ _ => .one .none) (hA'.le (by decide) (by decide)) (hx.mono fun _ h => .tail _ h) (.tail _ hf) hrs hn (.inl ⟨rfl, rfl⟩) (.head _) fun v h t hM => ?_
  repeat walk_at "mi"
  cases eg : getRows rs (Txt.lower nm) with
  | some y =>
    rw [eg] at hM q
    obtain ⟨u, rfl⟩ := hM.isStr (.head _)
    refine m_isn (by rfl) (m_fin hR hM fun hM => q _ _ (Mst.sub hM fun f hf => .tail _ (.tail _ hf)))
  | none =>
    rw [eg] at hM q
    cases hM.isNone (.head _)
    refine m_isn (by rfl) (m_fin hR hM fun hM => q _ _ (Mst.sub hM fun f hf => .tail _ (.tail _ hf)))
/-- a row is laid at the end -/
theorem row_push {G : Gr} {vs : Array Value} {rs : List Row} {v : Value} {r : Row} (h : DaAll G vs.toList (rs.map rowDa)) (hv : DaIn G v (rowDa r)) : DaAll G (vs.push v).toList ((rs ++ [r]).map rowDa) := by
  rw [Array.toList_push, List.map_append]
  exact h.snoc hv
theorem c_setdefault {prog : Program} {w : World} {A : Around} {E : Value → Shared → Prop} {H0 : Heap} {B G₀ : Gr} {L : Addr} {m : Loc} {W : Own} {D : Facts} {h : Heap} {g : Array GenState} {d : Drawn} {t : Nat} {os : OsState}
    {x lst : Addr} {vs : Array Value} {rs : List Row} {nm ld : Str} {tn tl : Tok} {Q : Value → Shared → Prop} (gd : Gd (KF w.params) H0) (hM : Mst H0 B G₀ L m ((lst, .lst vs) :: W) D h) (hA : Rm A 12 50) (hx : TabAt D x lst)
    (hf : (vs.toList, rs.map rowDa) ∈ D) (hrs : ∀ r ∈ rs, RowOk r) (hr : RowOk (nm, ld)) (hlen : rs.length ≤ 1000)
    (q : ∀ vs' v h' t', Mst H0 B G₀ L m ((lst, .lst vs') :: W) (([v], [.str ((getRows rs (Txt.lower nm)).getD ld)]) :: (vs'.toList, (if (getRows rs (Txt.lower nm)).isSome then rs else rs ++ [(nm, ld)]).map rowDa) :: D) h' → Q v ⟨h', g, d, t', os⟩) :
    wpAny (model prog w) A (call (.ref 245) [.ref x, .str nm tn, .str ld tl]) Q E ⟨h, g, d, t, os⟩ := by
  have hM' : Mst H0 B G₀ L m ([] ++ ((lst, .lst vs) :: W)) D h := hM
  refine m_def (binds := [(sx "self", .ref x), (sx "name", .str nm tn), (sx "value", .str ld tl)]) gd hM' (hA.le (d' := 11 + 1) (u' := 44 + 3) (by decide) (by decide)) (by rfl) (by rfl) (BindsTo.of_eq (by rfl)) (by rfl) ?_
  clear hM hM'
  intro env A' L' B' G' h t R E' hE hA' hM hR _
  obtain ⟨dx, fl, hi, rfl⟩ := hx.inst
  have C := hd_ok w.params
  have hsz : vs.size = rs.length := by simpa using hM.has hf
  have hx0 := hx
  repeat walk_at "mi"
  refine m_gmeth gd C hM (hi _) (hd_f_get _) (by kernel_rfl) (by rfl) ?_
  repeat walk_at "mi"
  refine c_get gd (hM.with (f := ([.none], [.none])) fun _ _ => .one .none) (hA'.le (by decide) (by decide)) (hx.mono fun _ h => .tail _ h) (.tail _ hf) hrs hr.name (.inl ⟨rfl, rfl⟩) (.head _) fun v h t hM => ?_
  cases eg : getRows rs (Txt.lower nm) with
  | some y =>
    rw [eg] at hM q
    obtain ⟨u, rfl⟩ := hM.isStr (.head _)
    repeat walk_at "mi"
    rw [show ((Value.str y u == Value.none) : Bool) = false from rfl]
    repeat walk_at "mi"
    refine m_fin hR hM fun hM => q vs _ _ _ (Mst.facts hM fun G g f hf' => ?_)
    rcases List.mem_cons.mp hf' with rfl | hf'
    · exact g _ (.head _)
    rcases List.mem_cons.mp hf' with rfl | hf'
    · exact g _ (.tail _ (.tail _ hf))
    · exact g f (.tail _ (.tail _ hf'))
  | none =>
    rw [eg] at hM q
    cases hM.isNone (.head _)
    repeat walk_at "mi"
    rw [show ((Value.none == Value.none) : Bool) = true from rfl]
    repeat walk_at "mi"
    obtain ⟨dx', fl', hi', e'⟩ := (hx0.mono (D' := ([Value.none], [optDa none Da.none]) :: ([Value.none], [Da.none]) :: D) fun _ h => .tail _ (.tail _ h)).inst
    subst e'
    refine m_get gd C hM (hi' _) (hd_no_headers _) (by rfl) (by rfl) ?_
    repeat walk_at "mi"
    refine m_gmeth gd C hM (hi' _) (hd_f_cst _) (by kernel_rfl) (by rfl) ?_
    repeat walk_at "mi"
    refine c_cst gd hM (hA'.le (by decide) (by decide)) hr.name.fine fun h t hM => ?_
    repeat walk_at "mi"
    refine m_gmeth gd C hM (hi' _) (hd_f_cst _) (by kernel_rfl) (by rfl) ?_
    repeat walk_at "mi"
    refine c_cst gd hM (hA'.le (by decide) (by decide)) hr.lead fun h t hM => ?_
    repeat walk_at "mi"
    refine m_newT hM (ds := [.str nm, .str ld]) (by walk_at "fact") (by walk_at "size") fun T h t hM => ?_
    repeat walk_at "mi"
    refine m_fin hR hM fun hM => q _ _ _ _ (Mst.facts hM fun G g f hf' => ?_)
    rcases List.mem_cons.mp hf' with rfl | hf'
    · exact .one (.str _ _)
    rcases List.mem_cons.mp hf' with rfl | hf'
    · exact row_push (g _ (.tail _ (.tail _ (.tail _ hf)))) (g ([.ref T], [rowDa (nm, ld)]) (.head _)).head
    · exact g f (.tail _ (.tail _ (.tail _ hf')))
/-- the leads under a name -/
def allRows (rs : List Row) (nm : Str) : List Str := (rs.filter fun r => Txt.lower r.1 == nm).map (·.2)
theorem c_getall {prog : Program} {w : World} {A : Around} {E : Value → Shared → Prop} {H0 : Heap} {B G₀ : Gr} {L : Addr} {m : Loc} {W : Own} {D : Facts} {h : Heap} {g : Array GenState} {d : Drawn} {t : Nat} {os : OsState}
    {x lst : Addr} {vs : Array Value} {rs : List Row} {nm : Str} {tn : Tok} {Q : Value → Shared → Prop} (gd : Gd (KF w.params) H0) (hM : Mst H0 B G₀ L m ((lst, .lst vs) :: W) D h) (hA : Rm A 12 50) (hx : TabAt D x lst)
    (hf : (vs.toList, rs.map rowDa) ∈ D) (hlen : rs.length ≤ 1000) (hrl : ∀ r ∈ rs, r.1.length ≤ 1000) (hl1 : nm.length ≤ 1000) (hl2 : Fine true (Txt.lower nm))
    (q : ∀ r h' t', Mst H0 B G₀ L m ((lst, .lst vs) :: W) (([.ref r], [.lst ((allRows rs (Txt.lower nm)).map Da.str)]) :: D) h' → Q (.ref r) ⟨h', g, d, t', os⟩) :
    wpAny (model prog w) A (call (.ref 194) [.ref x, .str nm tn]) Q E ⟨h, g, d, t, os⟩ := by
  have hM' : Mst H0 B G₀ L m ([] ++ ((lst, .lst vs) :: W)) D h := hM
  refine m_defC1 (binds := [(sx "self", .ref x), (sx "name", .str nm tn)]) (lbinds := [(sx "self", .ref x)]) (cn := sx "name") (cv := some (.str nm tn)) gd hM' (hA.le (d' := 11 + 1) (u' := 44 + 3) (by decide) (by decide)) (by rfl) (by rfl) (by rfl) (by rfl) (by intro _; rfl) (by rfl) (by walk_at "kn") rfl ?_
  clear hM hM'
  intro env A' L' c B' G' h t R E' hE hA' hM hR _
  obtain ⟨dx, fl, hi, rfl⟩ := hx.inst
  have C := hd_ok w.params
  repeat walk_at "mi"
  refine m_gmeth gd C hM (hi _) (hd_f_cst _) (by kernel_rfl) (by rfl) ?_
  repeat walk_at "mi"
  refine m_ldc hE hM (by rfl) (by rfl) (.head _) ?_
  repeat walk_at "mi"
  refine c_cst gd hM (hA'.le (by decide) (by decide)) hl2 fun h t hM => ?_
  refine m_stc hE hM (by rfl) (by rfl) .head fun h t hM => ?_
  repeat walk_at "mi"
  refine m_comp (fun r => Txt.lower r.1 == Txt.lower nm) (fun r => .str r.2) hM hf (closure_one hE (by rfl) (by rfl)) fun p F hpf => ?_
  repeat walk_at "mi"
  refine m_get gd C hM (hi _) (hd_no_headers _) (by rfl) (by rfl) ?_
  refine m_compgo hpf hA'.h hM (hM.lst (.own (.tail _ (.head _)))) hf hlen ?_ ?_ ?_
  · intro C₁ r v h₃ g₃ d₃ t os₃ m₃ E' hr hv hN hm kk
    refine r_if1 ?_
    repeat walk_at "mi"
    refine r_ld (compEnvIs hE (by rfl)) hN hm (by rfl) ?_
    repeat walk_at "mi"
    refine r_row0 hv fun tk => ?_
    have hr1 := hrl r hr
    repeat walk_at "mi"
    refine r_cell (compEnvIs hE (by rfl)) (by rfl) (by rfl) ((hM.own _ (.head _)).1.at fun o e => kk _ o e) ?_
    repeat walk_at "mi"
    exact ⟨rfl, _, rfl⟩
  · intro C₁ r v h₃ g₃ d₃ t os₃ m₃ E' hr ht hv hN hm kk
    repeat walk_at "mi"
    refine r_ld (compEnvIs hE (by rfl)) hN hm (by rfl) ?_
    repeat walk_at "mi"
    refine r_row1 hv fun tk => ?_
    exact ⟨fun G _ => .str _ _, _, rfl⟩
  · intro r ys h t hM
    repeat walk_at "mi"
    have hM := hM.freezeL (ds := (allRows rs (Txt.lower nm)).map Da.str) fun G g => by
      have := g _ (.head _)
      unfold allRows
      rw [List.map_map]
      exact this
    refine m_fin hR (Mst.drop hM) fun hM => q _ _ _ (Mst.sub hM fun f hf => ?_)
    rcases List.mem_cons.mp hf with rfl | hf
    · exact .head _
    · exact .tail _ (.tail _ hf)
set_option hygiene false in
local macro_rules | `(tactic| walk_at "up") => `(tactic| (intro _ hf'; repeat (first | exact hf' | apply List.Mem.tail)))
section
variable {prog : Program} {w : World} {A : Around} {E : Value → Shared → Prop} {H0 : Heap} {B G₀ : Gr} {L : Addr} {m : Loc} {W : Own} {D D' : Facts} {h : Heap} {g : Array GenState} {d : Drawn} {t : Nat} {os : OsState} {x lst : Addr}
/-- a table's list is read -/
theorem m_hd {expr : Bool} {Q : Value → Shared → Prop} (gd : Gd (KF w.params) H0) (hM : Mst H0 B G₀ L m W D' h) (hx : TabAt D x lst) (hD : ∀ f ∈ D, f ∈ D') (q : Q (.ref lst) ⟨h, g, d, t + 1, os⟩) : wpAny (model prog w) A (getAttr (.ref x) (sx "_headers") expr) Q E ⟨h, g, d, t, os⟩ := by
  obtain ⟨dx, fl, hi, rfl⟩ := (hx.mono hD).inst
  exact m_get gd (hd_ok _) hM (hi _) (hd_no_headers _) (by rfl) (by rfl) q
theorem m_hm {f : Addr} {name : Str} {pl : Sem Bool} {Q : Value × List Value → Shared → Prop} (gd : Gd (KF w.params) H0) (hM : Mst H0 B G₀ L m W D' h) (hx : TabAt D x lst) (hD : ∀ f ∈ D, f ∈ D')
    (hf : findIn (KF w.params) (.ref 255) name = some (some (.ref f))) (ht : typeIn (KF w.params) (.ref f) = some (.type "function")) (hs : ([(sx "_headers", Value.ref lst)] : List (Str × Value)).lookup name = none) (q : Q (.ref f, [.ref x]) ⟨h, g, d, t, os⟩) :
    wpAny (model prog w) A (getMethod (.ref x) name pl) Q E ⟨h, g, d, t, os⟩ := by
  obtain ⟨dx, fl, hi, rfl⟩ := (hx.mono hD).inst
  exact m_gmeth gd (hd_ok _) hM (hi _) hf ht hs q
end
theorem hd_f_len (P : Params) : findIn (KF P) (.ref 255) "__len__" = some (some (.ref 163)) := by kernel_rfl
theorem hd_f_setitem (P : Params) : findIn (KF P) (.ref 255) "__setitem__" = some (some (.ref 170)) := by kernel_rfl
theorem hd_f_delitem (P : Params) : findIn (KF P) (.ref 255) "__delitem__" = some (some (.ref 175)) := by kernel_rfl
theorem hd_f_getitem (P : Params) : findIn (KF P) (.ref 255) "__getitem__" = some (some (.ref 182)) := by kernel_rfl
theorem hd_f_contains (P : Params) : findIn (KF P) (.ref 255) "__contains__" = some (some (.ref 189)) := by kernel_rfl
theorem hd_f_getall (P : Params) : findIn (KF P) (.ref 255) "get_all" = some (some (.ref 194)) := by kernel_rfl
theorem hd_f_keys (P : Params) : findIn (KF P) (.ref 255) "keys" = some (some (.ref 207)) := by kernel_rfl
theorem hd_f_values (P : Params) : findIn (KF P) (.ref 255) "values" = some (some (.ref 212)) := by kernel_rfl
theorem hd_f_items (P : Params) : findIn (KF P) (.ref 255) "items" = some (some (.ref 219)) := by kernel_rfl
theorem hd_f_str (P : Params) : findIn (KF P) (.ref 255) "__str__" = some (some (.ref 231)) := by kernel_rfl
theorem hd_f_setdefault (P : Params) : findIn (KF P) (.ref 255) "setdefault" = some (some (.ref 245)) := by kernel_rfl
theorem hd_f_addheader (P : Params) : findIn (KF P) (.ref 255) "add_header" = some (some (.ref 252)) := by kernel_rfl
theorem hd_noseq (P : Params) : noSeq (KF P) 255 = true := by kernel_rfl
theorem t_163 (P : Params) : typeIn (KF P) (.ref 163) = some (.type "function") := by kernel_rfl
theorem t_170 (P : Params) : typeIn (KF P) (.ref 170) = some (.type "function") := by kernel_rfl
theorem t_175 (P : Params) : typeIn (KF P) (.ref 175) = some (.type "function") := by kernel_rfl
theorem t_182 (P : Params) : typeIn (KF P) (.ref 182) = some (.type "function") := by kernel_rfl
theorem t_189 (P : Params) : typeIn (KF P) (.ref 189) = some (.type "function") := by kernel_rfl
theorem t_194 (P : Params) : typeIn (KF P) (.ref 194) = some (.type "function") := by kernel_rfl
theorem t_202 (P : Params) : typeIn (KF P) (.ref 202) = some (.type "function") := by kernel_rfl
theorem t_156 (P : Params) : typeIn (KF P) (.ref 156) = some (.type "function") := by kernel_rfl
theorem t_207 (P : Params) : typeIn (KF P) (.ref 207) = some (.type "function") := by kernel_rfl
theorem t_212 (P : Params) : typeIn (KF P) (.ref 212) = some (.type "function") := by kernel_rfl
theorem t_219 (P : Params) : typeIn (KF P) (.ref 219) = some (.type "function") := by kernel_rfl
theorem t_231 (P : Params) : typeIn (KF P) (.ref 231) = some (.type "function") := by kernel_rfl
theorem t_245 (P : Params) : typeIn (KF P) (.ref 245) = some (.type "function") := by kernel_rfl
theorem t_252 (P : Params) : typeIn (KF P) (.ref 252) = some (.type "function") := by kernel_rfl
set_option hygiene false in
local macro_rules | `(tactic| walk_at "up") => `(tactic| (intro _ hf'; repeat (first | exact hf' | apply List.Mem.tail)))
/-- the rows that are not under a name -/
def offRows (rs : List Row) (nm : Str) : List Row := rs.filter fun r => Txt.lower r.1 != nm
theorem c_delitem {prog : Program} {w : World} {A : Around} {E : Value → Shared → Prop} {H0 : Heap} {B G₀ : Gr} {L : Addr} {m : Loc} {W : Own} {D : Facts} {h : Heap} {g : Array GenState} {d : Drawn} {t : Nat} {os : OsState}
    {x lst : Addr} {vs : Array Value} {rs : List Row} {nm : Str} {tn : Tok} {Q : Value → Shared → Prop} (gd : Gd (KF w.params) H0) (hM : Mst H0 B G₀ L m ((lst, .lst vs) :: W) D h) (hA : Rm A 12 50) (hx : TabAt D x lst)
    (hf : (vs.toList, rs.map rowDa) ∈ D) (hlen : rs.length ≤ 1000) (hrl : ∀ r ∈ rs, r.1.length ≤ 1000) (hl1 : nm.length ≤ 1000) (hl2 : Fine true (Txt.lower nm))
    (q : ∀ vs' h' t', Mst H0 B G₀ L m ((lst, .lst vs') :: W) ((vs'.toList, (offRows rs (Txt.lower nm)).map rowDa) :: D) h' → Q .none ⟨h', g, d, t', os⟩) :
    wpAny (model prog w) A (call (.ref 175) [.ref x, .str nm tn]) Q E ⟨h, g, d, t, os⟩ := by
  have hM' : Mst H0 B G₀ L m (W ++ [(lst, .lst vs)]) D h := hM.last
  refine m_defC1 (binds := [(sx "self", .ref x), (sx "name", .str nm tn)]) (lbinds := [(sx "self", .ref x)]) (cn := sx "name") (cv := some (.str nm tn)) gd hM' (hA.le (d' := 11 + 1) (u' := 44 + 3) (by decide) (by decide)) (by rfl) (by rfl) (by rfl) (by rfl) (by intro _; rfl) (by rfl) (by walk_at "kn") rfl ?_
  clear hM hM'
  intro env A' L' c B' G' h t R E' hE hA' hM _ hN
  obtain ⟨dx, fl, hi, rfl⟩ := hx.inst
  have C := hd_ok w.params
  have hsz : vs.size = rs.length := by simpa using hM.has hf
  repeat walk_at "mi"
  refine m_gmeth gd C hM (hi _) (hd_f_cst _) (by kernel_rfl) (by rfl) ?_
  repeat walk_at "mi"
  refine m_ldc hE hM (by rfl) (by rfl) (.head _) ?_
  repeat walk_at "mi"
  refine c_cst gd hM (hA'.le (by decide) (by decide)) hl2 fun h t hM => ?_
  refine m_stc hE hM (by rfl) (by rfl) .head fun h t hM => ?_
  repeat walk_at "mi"
  refine m_comp (fun r => Txt.lower r.1 != Txt.lower nm) rowDa hM hf (closure_one hE (by rfl) (by rfl)) fun p F hpf => ?_
  repeat walk_at "mi"
  refine m_get gd C hM (hi _) (hd_no_headers _) (by rfl) (by rfl) ?_
  refine m_compgo hpf hA'.h hM (hM.lst (.own (.tail _ (.head _)))) hf hlen ?_ ?_ ?_
  · intro C₁ r v h₃ g₃ d₃ t os₃ m₃ E' hr hv hN hm kk
    refine r_if1 ?_
    repeat walk_at "mi"
    refine r_ld (compEnvIs hE (by rfl)) hN hm (by rfl) ?_
    repeat walk_at "mi"
    refine r_row0 hv fun tk => ?_
    have hr1 := hrl r hr
    repeat walk_at "mi"
    refine r_cell (compEnvIs hE (by rfl)) (by rfl) (by rfl) ((hM.own _ (.head _)).1.at fun o e => kk _ o e) ?_
    repeat walk_at "mi"
    exact ⟨rfl, _, rfl⟩
  · intro C₁ r v h₃ g₃ d₃ t os₃ m₃ E' hr ht hv hN hm kk
    repeat walk_at "mi"
    refine r_ld (compEnvIs hE (by rfl)) hN hm (by rfl) ?_
    exact ⟨fun G h => h, _, rfl⟩
  · intro r ys h t hM
    have hys : ys.size ≤ 1000 := by
      have := hM.has (.head _)
      rw [Array.length_toList, List.length_map] at this
      rw [this]
      exact Nat.le_trans (List.length_filter_le _ _) hlen
    repeat walk_at "mi"
    refine m_hd gd hM hx (by walk_at "up") ?_
    repeat walk_at "mi"
    have hrl : r ≠ lst := fun e => by
      have := hM.nd
      simp at this
      exact this.1.2 e
    refine m_setAll hM (us := ys) (by walk_at "wup") (by walk_at "mem") (.own (by walk_at "mem")) hrl (by omega) (by omega) fun h t hM => ?_
    repeat walk_at "mi"
    have hM := hM.pick (W' := [(lst, .lst ys)]) (by walk_at "pick")
    refine hN _ (m_end hM fun hM => q ys _ _ (Mst.sub (Mst.first hM) fun f hf => ?_))
    rcases List.mem_cons.mp hf with rfl | hf
    · exact .tail _ (.head _)
    · exact .tail _ (.tail _ hf)
theorem closure_none2 {env : Env} {scope : Scope} {z a b : Str} (hs : scope.names = [(z, .local), (a, .local), (b, .local)]) : closureFor scope env = pure [] := by
  unfold closureFor
  rw [hs]
  simp
theorem c_keys {prog : Program} {w : World} {A : Around} {E : Value → Shared → Prop} {H0 : Heap} {B G₀ : Gr} {L : Addr} {m : Loc} {W : Own} {D : Facts} {h : Heap} {g : Array GenState} {d : Drawn} {t : Nat} {os : OsState}
    {x lst : Addr} {vs : Array Value} {rs : List Row} {Q : Value → Shared → Prop} (gd : Gd (KF w.params) H0) (hM : Mst H0 B G₀ L m ((lst, .lst vs) :: W) D h) (hA : Rm A 12 50) (hx : TabAt D x lst)
    (hf : (vs.toList, rs.map rowDa) ∈ D) (hlen : rs.length ≤ 1000)
    (q : ∀ r h' t', Mst H0 B G₀ L m ((lst, .lst vs) :: W) (([.ref r], [.lst (rs.map fun r => Da.str r.1)]) :: D) h' → Q (.ref r) ⟨h', g, d, t', os⟩) :
    wpAny (model prog w) A (call (.ref 207) [.ref x]) Q E ⟨h, g, d, t, os⟩ := by
  have hM' : Mst H0 B G₀ L m ([] ++ ((lst, .lst vs) :: W)) D h := hM
  refine m_def (binds := [(sx "self", .ref x)]) gd hM' (hA.le (d' := 11 + 1) (u' := 44 + 3) (by decide) (by decide)) (by rfl) (by rfl) (BindsTo.of_eq (by rfl)) (by rfl) ?_
  clear hM hM'
  intro env A' L' B' G' h t R E' hE hA' hM hR _
  repeat walk_at "mi"
  refine m_comp2 (n := rs.length) (fun _ => true) (fun i z => ∀ r, rs[i]? = some r → ∀ G : Gr, DaIn G z (Da.str r.1)) hA'.h (closure_none2 (by rfl)) ?_
  repeat walk_at "mi"
  refine m_hd gd hM hx (by walk_at "up") ?_
  refine m_c2rows (out := fun r => Da.str r.1) hA'.h hM (hM.lst (.own (.head _))) hf hlen ?_ ?_
  · intro C r t₁ t₂ h₃ g₃ d₃ t os₃ m₃ E' hr hN h1 h2
    refine r_ld (compEnvIs hE (by rfl)) hN h1 (by rfl) ?_
    exact ⟨fun G => .str _ _, _, rfl⟩
  · intro r ys h t hM
    repeat walk_at "mi"
    have hM := hM.freezeL (ds := rs.map fun r => Da.str r.1) fun G g => g _ (.head _)
    refine m_fin hR hM fun hM => q _ _ _ (Mst.sub hM fun f hf => ?_)
    rcases List.mem_cons.mp hf with rfl | hf
    · exact .head _
    · exact .tail _ (.tail _ hf)
theorem c_values {prog : Program} {w : World} {A : Around} {E : Value → Shared → Prop} {H0 : Heap} {B G₀ : Gr} {L : Addr} {m : Loc} {W : Own} {D : Facts} {h : Heap} {g : Array GenState} {d : Drawn} {t : Nat} {os : OsState}
    {x lst : Addr} {vs : Array Value} {rs : List Row} {Q : Value → Shared → Prop} (gd : Gd (KF w.params) H0) (hM : Mst H0 B G₀ L m ((lst, .lst vs) :: W) D h) (hA : Rm A 12 50) (hx : TabAt D x lst)
    (hf : (vs.toList, rs.map rowDa) ∈ D) (hlen : rs.length ≤ 1000)
    (q : ∀ r h' t', Mst H0 B G₀ L m ((lst, .lst vs) :: W) (([.ref r], [.lst (rs.map fun r => Da.str r.2)]) :: D) h' → Q (.ref r) ⟨h', g, d, t', os⟩) :
    wpAny (model prog w) A (call (.ref 212) [.ref x]) Q E ⟨h, g, d, t, os⟩ := by
  have hM' : Mst H0 B G₀ L m ([] ++ ((lst, .lst vs) :: W)) D h := hM
  refine m_def (binds := [(sx "self", .ref x)]) gd hM' (hA.le (d' := 11 + 1) (u' := 44 + 3) (by decide) (by decide)) (by rfl) (by rfl) (BindsTo.of_eq (by rfl)) (by rfl) ?_
  clear hM hM'
  intro env A' L' B' G' h t R E' hE hA' hM hR _
  repeat walk_at "mi"
  refine m_comp2 (n := rs.length) (fun _ => true) (fun i z => ∀ r, rs[i]? = some r → ∀ G : Gr, DaIn G z (Da.str r.2)) hA'.h (closure_none2 (by rfl)) ?_
  repeat walk_at "mi"
  refine m_hd gd hM hx (by walk_at "up") ?_
  refine m_c2rows (out := fun r => Da.str r.2) hA'.h hM (hM.lst (.own (.head _))) hf hlen ?_ ?_
  · intro C r t₁ t₂ h₃ g₃ d₃ t os₃ m₃ E' hr hN h1 h2
    refine r_ld (compEnvIs hE (by rfl)) hN h2 (by rfl) ?_
    exact ⟨fun G => .str _ _, _, rfl⟩
  · intro r ys h t hM
    repeat walk_at "mi"
    have hM := hM.freezeL (ds := rs.map fun r => Da.str r.2) fun G g => g _ (.head _)
    refine m_fin hR hM fun hM => q _ _ _ (Mst.sub hM fun f hf => ?_)
    rcases List.mem_cons.mp hf with rfl | hf
    · exact .head _
    · exact .tail _ (.tail _ hf)
theorem c_items {prog : Program} {w : World} {A : Around} {E : Value → Shared → Prop} {H0 : Heap} {B G₀ : Gr} {L : Addr} {m : Loc} {W : Own} {D : Facts} {h : Heap} {g : Array GenState} {d : Drawn} {t : Nat} {os : OsState}
    {x lst : Addr} {vs : Array Value} {Q : Value → Shared → Prop} (gd : Gd (KF w.params) H0) (hM : Mst H0 B G₀ L m ((lst, .lst vs) :: W) D h) (hA : Rm A 12 50) (hx : TabAt D x lst) (hlen : vs.size ≤ 1000)
    (q : ∀ r h' t', Mst H0 B G₀ L m ((r, .lst vs) :: (lst, .lst vs) :: W) D h' → Q (.ref r) ⟨h', g, d, t', os⟩) :
    wpAny (model prog w) A (call (.ref 219) [.ref x]) Q E ⟨h, g, d, t, os⟩ := by
  have hM' : Mst H0 B G₀ L m ([] ++ ((lst, .lst vs) :: W)) D h := hM
  refine m_def (binds := [(sx "self", .ref x)]) gd hM' (hA.le (d' := 11 + 1) (u' := 44 + 3) (by decide) (by decide)) (by rfl) (by rfl) (BindsTo.of_eq (by rfl)) (by rfl) ?_
  clear hM hM'
  intro env A' L' B' G' h t R E' hE hA' hM hR _
  repeat walk_at "mi"
  refine m_hd gd hM hx (by walk_at "up") ?_
  repeat walk_at "mi"
  refine m_tailcut hM (.own (.head _)) (by walk_at "mem") (by omega) .none .none (slicePick_all _) fun r h t hM => ?_
  repeat walk_at "mi"
  exact m_fin hR hM fun hM => q _ _ _ (Mst.sub hM fun f hf => .tail _ hf)
theorem c_setitem {prog : Program} {w : World} {A : Around} {E : Value → Shared → Prop} {H0 : Heap} {B G₀ : Gr} {L : Addr} {m : Loc} {W : Own} {D : Facts} {h : Heap} {g : Array GenState} {d : Drawn} {t : Nat} {os : OsState}
    {x lst : Addr} {vs : Array Value} {rs : List Row} {nm ld : Str} {tn tl : Tok} {Q : Value → Shared → Prop} (gd : Gd (KF w.params) H0) (hM : Mst H0 B G₀ L m ((lst, .lst vs) :: W) D h) (hA : Rm A 14 60) (hx : TabAt D x lst)
    (hf : (vs.toList, rs.map rowDa) ∈ D) (hlen : rs.length ≤ 1000) (hrl : ∀ r ∈ rs, r.1.length ≤ 1000) (hr : RowOk (nm, ld))
    (q : ∀ vs' h' t', Mst H0 B G₀ L m ((lst, .lst vs') :: W) ((vs'.toList, (offRows rs (Txt.lower nm) ++ [(nm, ld)]).map rowDa) :: D) h' → Q .none ⟨h', g, d, t', os⟩) :
    wpAny (model prog w) A (call (.ref 170) [.ref x, .str nm tn, .str ld tl]) Q E ⟨h, g, d, t, os⟩ := by
  have hM' : Mst H0 B G₀ L m ([] ++ ((lst, .lst vs) :: W)) D h := hM
  refine m_def (binds := [(sx "self", .ref x), (sx "name", .str nm tn), (sx "val", .str ld tl)]) gd hM' (hA.le (d' := 13 + 1) (u' := 54 + 3) (by decide) (by decide)) (by rfl) (by rfl) (BindsTo.of_eq (by rfl)) (by rfl) ?_
  clear hM hM'
  intro env A' L' B' G' h t R E' hE hA' hM _ hN
  obtain ⟨dx, fl, hi, rfl⟩ := hx.inst
  repeat walk_at "mi"
  refine m_del ?_
  repeat walk_at "mi"
  refine m_idelItem gd hM (hi _) (hd_noseq _) (hd_f_delitem _) (t_175 _) ?_
  refine c_delitem gd hM (hA'.le (by decide) (by decide)) hx hf hlen hrl hr.name.len hr.name.low fun vs' h t hM => ?_
  have hsz' : vs'.size ≤ 1000 := by
    have := hM.has (.head _)
    rw [Array.length_toList, List.length_map] at this
    rw [this]
    exact Nat.le_trans (List.length_filter_le _ _) hlen
  repeat walk_at "mi"
  refine m_hd gd hM hx (by walk_at "up") ?_
  repeat walk_at "mi"
  refine m_hm gd hM hx (by walk_at "up") (hd_f_cst _) (t_156 _) (by rfl) ?_
  repeat walk_at "mi"
  refine c_cst gd hM (hA'.le (by decide) (by decide)) hr.name.fine fun h t hM => ?_
  repeat walk_at "mi"
  refine m_hm gd hM hx (by walk_at "up") (hd_f_cst _) (t_156 _) (by rfl) ?_
  repeat walk_at "mi"
  refine c_cst gd hM (hA'.le (by decide) (by decide)) hr.lead fun h t hM => ?_
  repeat walk_at "mi"
  refine m_newT hM (ds := [.str nm, .str ld]) (by walk_at "fact") (by walk_at "size") fun T h t hM => ?_
  repeat walk_at "mi"
  refine hN _ (m_end hM fun hM => q _ _ _ (Mst.facts hM fun G g f hf' => ?_))
  rcases List.mem_cons.mp hf' with rfl | hf'
  · exact row_push (g _ (.tail _ (.head _))) (g ([.ref T], [rowDa (nm, ld)]) (.head _)).head
  · exact g f (.tail _ (.tail _ hf'))
/-- a row as a line of a text -/
def lineOf (r : Row) : Str := r.1 ++ (⟨#[58, 32]⟩ : Str) ++ r.2
theorem lineOf_len (r : Row) : (lineOf r).length = r.1.length + 2 + r.2.length := by
  unfold lineOf Str.length
  show (r.1.cps ++ #[58, 32] ++ r.2.cps).size = _
  rw [Array.size_append, Array.size_append]; rfl
theorem sum_le {α : Type} (f : α → Nat) (k : Nat) : ∀ l : List α, (∀ x ∈ l, f x ≤ k) → (l.map f).sum ≤ l.length * k
  | [], _ => by simp
  | a :: l, h => by
    have := sum_le f k l fun x hx => h x (.tail _ hx)
    have h1 := h a (.head _)
    rw [List.map_cons, List.sum_cons, List.length_cons, Nat.succ_mul]
    omega
theorem c_str {prog : Program} {w : World} {A : Around} {E : Value → Shared → Prop} {H0 : Heap} {B G₀ : Gr} {L : Addr} {m : Loc} {W : Own} {D : Facts} {h : Heap} {g : Array GenState} {d : Drawn} {t : Nat} {os : OsState}
    {x lst : Addr} {vs : Array Value} {rs : List Row} {Q : Value → Shared → Prop} (gd : Gd (KF w.params) H0) (hM : Mst H0 B G₀ L m ((lst, .lst vs) :: W) D h) (hA : Rm A 12 50) (hx : TabAt D x lst)
    (hf : (vs.toList, rs.map rowDa) ∈ D) (hlen : rs.length ≤ 1000) (hrl : ∀ r ∈ rs, r.1.length ≤ 1000 ∧ r.2.length ≤ 1000)
    (q : ∀ u h' t', Mst H0 B G₀ L m ((lst, .lst vs) :: W) D h' → Q (.str (Txt.join ⟨#[13, 10]⟩ (rs.map lineOf ++ [⟨#[]⟩, ⟨#[]⟩])) u) ⟨h', g, d, t', os⟩) :
    wpAny (model prog w) A (call (.ref 231) [.ref x]) Q E ⟨h, g, d, t, os⟩ := by
  have hM' : Mst H0 B G₀ L m ([] ++ ((lst, .lst vs) :: W)) D h := hM
  refine m_def (binds := [(sx "self", .ref x)]) gd hM' (hA.le (d' := 11 + 1) (u' := 44 + 3) (by decide) (by decide)) (by rfl) (by rfl) (BindsTo.of_eq (by rfl)) (by rfl) ?_
  clear hM hM'
  intro env A' L' B' G' h t R E' hE hA' hM hR _
  repeat walk_at "mi"
  refine m_gm_join ?_
  repeat walk_at "mi"
  refine m_comp (fun _ => true) (fun r => .str (lineOf r)) hM hf (closure_none (by rfl)) fun p F hpf => ?_
  repeat walk_at "mi"
  refine m_hd gd hM hx (by walk_at "up") ?_
  refine m_compgo hpf hA'.h hM (hM.lst (.own (.head _))) hf hlen ?_ ?_ ?_
  · intro C₁ r v h₃ g₃ d₃ t os₃ m₃ E' hr hv hN hm kk
    exact r_if0 ⟨rfl, _, rfl⟩
  · intro C₁ r v h₃ g₃ d₃ t os₃ m₃ E' hr ht hv hN hm kk
    repeat walk_at "mi"
    refine r_ld (compEnvIs hE (by rfl)) hN hm (by rfl) ?_
    exact r_pct (by rfl) hv (hrl r hr).1 (hrl r hr).2 fun t' k => ⟨fun G _ => .str _ _, _, rfl⟩
  · intro r ys h t hM
    have ef : rs.filter (fun _ => true) = rs := List.filter_eq_self.mpr fun _ _ => rfl
    rw [ef] at hM
    have hys : ys.size ≤ 1000 := by
      have := hM.has (.head _)
      rw [Array.length_toList, List.length_map] at this
      omega
    repeat walk_at "mi"
    refine m_newW hM (by walk_at "size") fun r₂ h t₂ hM => ?_
    refine m_addl hM (.own (by walk_at "mem")) (.own (by walk_at "mem")) (by simp; walk_at "size") fun r₃ h t₃ hM => ?_
    have hM := hM.with (f := ((ys.toList ++ [Value.str (Str.ofString "") t, Value.str (Str.ofString "") (t + 1)].toArray.toList).toArray.toList, (rs.map lineOf ++ ([⟨#[]⟩, ⟨#[]⟩] : List Str)).map Da.str)) fun G g => by
      rw [List.toList_toArray, List.map_append, List.map_map]
      exact DaAll.append (us := [Value.str (Str.ofString "") _, Value.str (Str.ofString "") _]) (es := [Da.str ⟨#[]⟩, Da.str ⟨#[]⟩]) (g _ (.head _)) (.cons (.str _ _) (.cons (.str _ _) .nil))
    repeat walk_at "mi"
    refine m_join hM (.own (.head _)) (.head _) ?_ fun t' k => ?_
    · have h1 := sum_le (fun r => (lineOf r).length) 2002 rs fun r hr => by
        show (lineOf r).length ≤ _
        rw [lineOf_len]
        have := hrl r hr
        omega
      have e1 : ((rs.map lineOf).map (·.length)).sum = (rs.map fun r => (lineOf r).length).sum := by rw [List.map_map]; rfl
      rw [List.map_append, List.sum_append, e1, List.length_append, List.length_map]
      have e2 : (([⟨#[]⟩, ⟨#[]⟩] : List Str).map (·.length)).sum = 0 := by rfl
      have e3 : ([⟨#[]⟩, ⟨#[]⟩] : List Str).length = 2 := rfl
      have e4 : (Str.ofString "\r\n").length = 2 := by rfl
      rw [e2, e3, e4]
      omega
    repeat walk_at "mi"
    have hM := hM.pick (W' := [(lst, .lst vs)] ++ W) (by walk_at "pick")
    refine m_fin hR hM fun hM => q _ _ _ (Mst.sub hM fun f hf => .tail _ (.tail _ hf))
theorem join_one (s x : Str) : Txt.join s [x] = x := rfl
theorem c_addheader {prog : Program} {w : World} {A : Around} {E : Value → Shared → Prop} {H0 : Heap} {B G₀ : Gr} {L : Addr} {m : Loc} {W : Own} {D : Facts} {h : Heap} {g : Array GenState} {d : Drawn} {t : Nat} {os : OsState}
    {x lst : Addr} {vs : Array Value} {rs : List Row} {nm ld : Str} {tn tl : Tok} {Q : Value → Shared → Prop} (gd : Gd (KF w.params) H0) (hM : Mst H0 B G₀ L m ((lst, .lst vs) :: W) D h) (hA : Rm A 12 50) (hx : TabAt D x lst)
    (hf : (vs.toList, rs.map rowDa) ∈ D) (hlen : rs.length ≤ 1000) (hr : RowOk (nm, ld))
    (q : ∀ vs' h' t', Mst H0 B G₀ L m ((lst, .lst vs') :: W) ((vs'.toList, (rs ++ [(nm, ld)]).map rowDa) :: D) h' → Q .none ⟨h', g, d, t', os⟩) :
    wpAny (model prog w) A (call (.ref 252) [.ref x, .str nm tn, .str ld tl]) Q E ⟨h, g, d, t, os⟩ := by
  have hM' : Mst H0 B G₀ L m ([] ++ ((lst, .lst vs) :: W)) D h := hM
  have hsz : vs.size = rs.length := by simpa using hM.has hf
  refine m_defK (front := [(sx "self", .ref x), (sx "_name", .str nm tn), (sx "_value", .str ld tl)]) (kn := sx "_params") gd hM' (hA.le (d' := 11 + 1) (u' := 44 + 3) (by decide) (by decide)) (by rfl) (by rfl) (by rfl) (by rfl) (by rfl) ?_
  clear hM hM'
  intro env A' L' B' G' kd h t R E' hka hE hA' hM _ hN
  repeat walk_at "mi"
  refine m_newW hM (by walk_at "size") fun pl h t hM => ?_
  repeat walk_at "mi"
  rw [show ((Value.str ld tl == Value.none) : Bool) = false from rfl]
  repeat walk_at "mi"
  refine m_hm gd hM hx (by walk_at "up") (hd_f_cst _) (t_156 _) (by rfl) ?_
  repeat walk_at "mi"
  refine c_cst gd hM (hA'.le (by decide) (by decide)) hr.lead fun h t hM => ?_
  repeat walk_at "mi"
  refine m_gm_items hM (by walk_at "mem") ?_
  repeat walk_at "mi"
  refine m_cditems hM (by walk_at "mem") (beq_eq_false_iff_ne.mpr fun e => absurd hka (by rw [e]; decide)) fun iv h t hM => ?_
  refine m_for0 hA'.h hM (by walk_at "mem") (by walk_at "mem") fun h t hM => ?_
  repeat walk_at "mi"
  refine m_hd gd hM hx (by walk_at "up") ?_
  repeat walk_at "mi"
  refine m_hm gd hM hx (by walk_at "up") (hd_f_cst _) (t_156 _) (by rfl) ?_
  repeat walk_at "mi"
  refine c_cst gd hM (hA'.le (by decide) (by decide)) hr.name.fine fun h t hM => ?_
  repeat walk_at "mi"
  refine m_gm_join ?_
  repeat walk_at "mi"
  have hM := hM.with (f := ((#[].push (Value.str ld tl)).toList, [ld].map Da.str)) fun G g => .one (.str _ _)
  refine m_join hM (.own (by walk_at "mem")) (.head _) (by
    have h1 : ld.length ≤ 1000 := hr.len
    have e : (Str.ofString "; ").length = 2 := by rfl
    rw [e]
    simp
    omega) fun t' k => ?_
  rw [join_one]
  repeat walk_at "mi"
  refine m_newT hM (ds := [.str nm, .str ld]) (by walk_at "fact") (by walk_at "size") fun T h t hM => ?_
  repeat walk_at "mi"
  have hM := hM.pick (W' := (lst, .lst (vs.push (.ref T))) :: W) (by walk_at "pick")
  refine hN _ (m_end hM fun hM => q _ _ _ (Mst.facts hM fun G g f hf' => ?_))
  rcases List.mem_cons.mp hf' with rfl | hf'
  · exact row_push (g _ (.tail _ (.tail _ (.tail _ hf)))) (g ([.ref T], [rowDa (nm, ld)]) (.head _)).head
  · exact g f (.tail _ (.tail _ (.tail _ hf')))
/-! ## _ellipsis_match -/
open PySem.Builtin PySem.Builtin.Str in
def emLoop (got : Str) : List Str → Nat → Nat → Bool
  | [], _, _ => true
  | w :: r, s, e => match occurrences got w s e 1 with | i :: _ => emLoop got r (i + w.length) e | [] => false
theorem emLoop_nil (got : Str) (s e : Nat) : emLoop got [] s e = true := rfl
theorem emLoop_cons (got w : Str) (r : List Str) (s e : Nat) : emLoop got (w :: r) s e = match Builtin.Str.occurrences got w s e 1 with | i :: _ => emLoop got r (i + w.length) e | [] => false := rfl
def emSt1 (ws : List Str) (got : Str) : Option (Nat × List Str) := match ws with
  | [] => none
  | a :: r => if a.length = 0 then some (0, a :: r) else if Txt.startswith got a then some (a.length, r) else none
def emSt2 (ws : List Str) (got : Str) : Option (Nat × List Str) := match ws.getLast? with
  | none => none
  | some b => if b.length = 0 then some (got.length, ws) else if Txt.endswith got b then some (got.length - b.length, ws.dropLast) else none
def emW (ws : List Str) (got : Str) : Bool := match emSt1 ws got with
  | none => false
  | some (s, l) => match emSt2 l got with
    | none => false
    | some (e, l') => if s > e then false else emLoop got l' s e
abbrev dots : Str := ⟨#[46, 46, 46]⟩
theorem dots_eq : Str.ofString "..." = dots := by rfl
theorem ends_le {x y : Str} (h : Txt.endswith x y = true) : y.length ≤ x.length := by
  unfold Txt.endswith at h
  rw [Bool.and_eq_true, decide_eq_true_eq] at h
  omega
theorem da_erase {G : Gr} {vs : Array Value} {d : Da} {ds : List Da} (h : DaAll G vs.toList (d :: ds)) : DaAll G (vs.eraseIdxIfInBounds 0).toList ds := by
  have e : (vs.eraseIdxIfInBounds 0).toList = vs.toList.tail := by simp [List.eraseIdx_zero]
  rw [e]
  generalize vs.toList = l at h
  cases h with | cons _ r => exact r
theorem DaAll.dropLast {G : Gr} : ∀ {vs : List Value} {ds : List Da}, DaAll G vs ds → DaAll G vs.dropLast ds.dropLast
  | [], [], _ => .nil
  | [_], [_], _ => .nil
  | _ :: _ :: _, _ :: _ :: _, h => .cons h.head (DaAll.dropLast h.tail)
  | [], _ :: _, h => by cases h
  | _ :: _, [], h => by cases h
  | [_], _ :: _ :: _, h => by cases h.tail
  | _ :: _ :: _, [_], h => by cases h.tail
theorem erase_last {α : Type} : ∀ l : List α, l ≠ [] → l.eraseIdx (l.length - 1) = l.dropLast
  | [], h => absurd rfl h
  | [_], _ => rfl
  | a :: b :: l, _ => by
    show a :: (b :: l).eraseIdx ((b :: l).length - 1) = a :: (b :: l).dropLast
    rw [erase_last (b :: l) (by simp)]
theorem da_eraseLast {G : Gr} {vs : Array Value} {ds : List Da} (h : DaAll G vs.toList ds) (hv : 0 < vs.size) : DaAll G (vs.eraseIdxIfInBounds (vs.size - 1)).toList ds.dropLast := by
  have e : (vs.eraseIdxIfInBounds (vs.size - 1)).toList = vs.toList.dropLast := by
    rw [Array.toList_eraseIdxIfInBounds, ← Array.length_toList]
    exact erase_last _ (fun e => by rw [← Array.length_toList, e] at hv; exact absurd hv (by decide))
  rw [e]
  exact h.dropLast
set_option hygiene false in
local macro_rules | `(tactic| walk_at "up2") => `(tactic| repeat (first | exact hf' | apply List.Mem.tail))
section
variable {prog : Program} {w : World} {A : Around} {E : Value → Shared → Prop} {H0 : Heap} {B G₀ : Gr} {L : Addr} {m : Loc} {W : Own} {D : Facts} {h : Heap} {g : Array GenState} {d : Drawn} {t : Nat} {os : OsState}
theorem c_em0 {want got : Str} {tw tg : Tok} {Q : Value → Shared → Prop} (gd : Gd (KF w.params) H0) (hM : Mst H0 B G₀ L m W D h) (hA : Rm A 10 40) (hc : Txt.contains want dots = false)
    (q : ∀ h' t', Mst H0 B G₀ L m W D h' → Q (.bool (want == got)) ⟨h', g, d, t', os⟩) : wpAny (model prog w) A (call (.ref 45) [.str want tw, .str got tg]) Q E ⟨h, g, d, t, os⟩ := by
  have hM' : Mst H0 B G₀ L m (W ++ []) D h := hM.app0
  refine m_def (binds := [(sx "want", .str want tw), (sx "got", .str got tg)]) gd hM' (hA.le (d' := 9 + 1) (u' := 30 + 3) (by decide) (by decide)) (by rfl) (by rfl) (BindsTo.of_eq (by rfl)) (by rfl) ?_
  clear hM hM'
  intro env A' L' B' G' h t R E' hE hA' hM hR _
  repeat walk_at "mi"
  rw [dots_eq]
  refine m_notins ?_
  rw [hc]
  repeat walk_at "mi"
  exact m_fin hR hM fun hM => q _ _ (Mst.un0 hM)
theorem c_em {want got : Str} {ws : List Str} {tw tg : Tok} {Q : Value → Shared → Prop} (gd : Gd (KF w.params) H0) (hM : Mst H0 B G₀ L m W D h) (hA : Rm A 10 40) (hc : Txt.contains want dots = true)
    (h1 : (decide (want.length < 3) || decide (Builtin.Str.strKind want < Builtin.Str.strKind dots)) = false) (hf : (Builtin.Str.occurrences want dots 0 want.length (want.length + 1)).isEmpty = false)
    (hp : Builtin.Str.partsBetween want (Builtin.Str.occurrences want dots 0 want.length (want.length + 1)) 3 = ws) (hws : 2 ≤ ws.length ∧ ws.length ≤ 100) (hlw : want.length ≤ 100000) (hlp : ∀ p ∈ ws, p.length ≤ 100000) (hlg : got.length ≤ 100000)
    (q : ∀ h' t', Mst H0 B G₀ L m W D h' → Q (.bool (emW ws got)) ⟨h', g, d, t', os⟩) : wpAny (model prog w) A (call (.ref 45) [.str want tw, .str got tg]) Q E ⟨h, g, d, t, os⟩ := by
  have hM' : Mst H0 B G₀ L m (W ++ []) D h := hM.app0
  refine m_def (binds := [(sx "want", .str want tw), (sx "got", .str got tg)]) gd hM' (hA.le (d' := 9 + 1) (u' := 30 + 3) (by decide) (by decide)) (by rfl) (by rfl) (BindsTo.of_eq (by rfl)) (by rfl) ?_
  clear hM hM'
  intro env A' L' B' G' h t R E' hE hA' hM hR _
  repeat walk_at "mi"
  rw [dots_eq]
  refine m_notins ?_
  rw [hc]
  repeat walk_at "mi"
  refine m_gm_split ?_
  repeat walk_at "mi"
  rw [dots_eq]
  refine m_split hM h1 hf hp (by omega) (by omega) fun a vs h t hM => ?_
  have hsz : vs.size = ws.length := by simpa using hM.has (.head _)
  repeat walk_at "mi"
  refine m_lenl hM (.own (.head _)) (by walk_at "size") fun u => ?_
  repeat walk_at "mi"
  refine ⟨decide_eq_true (by omega), ?_⟩
  repeat walk_at "mi"
  refine m_lens (by rw [sizeLine_eq]; omega) fun u => ?_
  repeat walk_at "mi"
  refine m_newT hM (ds := [.int 0, .int got.length]) (by walk_at "fact") (by walk_at "size") fun tp h t hM => ?_
  refine m_un2s hA'.h hM (by walk_at "mem") fun v₁ v₂ h t hM => ?_
  obtain ⟨u₁, rfl⟩ := hM.isInt (by walk_at "mem")
  obtain ⟨u₂, rfl⟩ := hM.isInt (v := v₂) (by walk_at "mem")
  repeat walk_at "mi"
  obtain ⟨a0, r0, rfl⟩ : ∃ a0 r0, ws = a0 :: r0 := by
    match ws, hws with
    | a0 :: r0, _ => exact ⟨a0, r0, rfl⟩
  refine m_itemx 0 hM (.own (.head _)) (by walk_at "mem") (by decide) (by decide) (sidx (n := 0) (by simp)) (by rfl) fun v hM => ?_
  obtain ⟨u₃, rfl⟩ := hM.isStr (.head _)
  repeat walk_at "m"
  have ha0 := hlp a0 (.head _)
  refine m_ifR hM (fun l' W' D' => ∃ (s : Nat) (ls : List Str) (vs' : Array Value) (t₁ t₂ : Tok), emSt1 (a0 :: r0) got = some (s, ls) ∧ 1 ≤ ls.length ∧ ls.length ≤ 100 ∧ (∀ p ∈ ls, p.length ≤ 100000) ∧
      l' = [(sx "startpos", .int s t₁), (sx "endpos", .int got.length t₂), (sx "ws", .ref a), (sx "got", .str got tg)] ∧ W' = [(a, .lst vs')] ∧ D' = (vs'.toList, ls.map Da.str) :: D) (fun T hTn hTr => ?_) ?_
  · repeat walk_at "mi"
    refine m_tstr (by omega) ?_
    refine Both.of (fun e => ?_) fun e => ?_
    · repeat walk_at "mi"
      refine m_gm_sw ?_
      repeat walk_at "mi"
      refine m_sw' ?_
      repeat walk_at "mi"
      refine Both.of (fun e2 => ?_) fun e2 => ?_
      · repeat walk_at "mi"
        refine m_lens (by rw [sizeLine_eq]; omega) fun u => ?_
        repeat walk_at "mi"
        refine m_del ?_
        repeat walk_at "mi"
        refine m_dell hM (us := vs.eraseIdxIfInBounds 0) (by walk_at "wup") (by decide) (j := 0) (sidx (n := 0) (by omega)) rfl (by omega) fun h t hM => ?_
        repeat walk_at "mi"
        refine m_ifend hTn hM (l' := [(sx "startpos", .int a0.length u), (sx "endpos", .int got.length u₂), (sx "ws", .ref a), (sx "got", .str got tg)]) (D'' := ((vs.eraseIdxIfInBounds 0).toList, r0.map Da.str) :: D) ⟨a0.length, r0, vs.eraseIdxIfInBounds 0, u, u₂, ?_, ?_, ?_, fun p hp => hlp p (.tail _ hp), rfl, rfl, rfl⟩ (by walk_at "kn") fun G g f hf' => ?_
        · unfold emSt1
          dsimp only
          rw [if_neg (by simpa using e), if_pos e2]
        · have := hws.1; simp at this; omega
        · have := hws.2; simp at this; omega
        · rcases List.mem_cons.mp hf' with rfl | hf'
          · have h3 := g (vs.toList, (a0 :: r0).map Da.str) (by walk_at "mem")
            exact da_erase h3
          · exact g f (by walk_at "up2")
      · repeat walk_at "mi"
        refine hTr _ _ (Then.ret (m_fin hR (hM.pick (W' := []) (List.nil_sublist _)) fun hM => ?_))
        have e3 : emW (a0 :: r0) got = false := by
          unfold emW emSt1
          dsimp only
          rw [if_neg (by simpa using e), e2]; rfl
        rw [← e3]
        exact q _ _ (Mst.sub (Mst.un0 hM) (by walk_at "up"))
    · repeat walk_at "mi"
      have ea : a0.length = 0 := by simpa using e
      refine m_ifend hTn hM (l' := [(sx "startpos", .int ((0 : Nat) : Int) u₁), (sx "endpos", .int got.length u₂), (sx "ws", .ref a), (sx "got", .str got tg)]) (D'' := (vs.toList, (a0 :: r0).map Da.str) :: D) ⟨0, a0 :: r0, vs, u₁, u₂, ?_, ?_, ?_, hlp, rfl, rfl, rfl⟩ (by walk_at "kn") fun G g f hf' => ?_
      · unfold emSt1
        dsimp only
        rw [if_pos ea]
      · have := hws.1; omega
      · have := hws.2; omega
      · rcases List.mem_cons.mp hf' with rfl | hf'
        · exact g _ (by walk_at "mem")
        · exact g f (by walk_at "up2")
  · rintro l₁ W' D' h t ⟨s, ls, vs', t₁, t₂, hst, hl1, hl2, hlq, rfl, rfl, rfl⟩ hM
    clear hf hp hlw h1 hc hsz hws ha0
    have hsz : vs'.size = ls.length := by simpa using hM.has (.head _)
    obtain ⟨b0, hb0⟩ : ∃ b0, ls.getLast? = some b0 := by
      cases e : ls.getLast? with
      | none => rw [List.getLast?_eq_none_iff] at e; rw [e] at hl1; simp at hl1
      | some b => exact ⟨b, rfl⟩
    have hbi : ls[ls.length - 1]? = some b0 := by rw [← List.getLast?_eq_getElem?]; exact hb0
    have hbm : b0 ∈ ls := List.mem_of_getElem? hbi
    have hlb := hlq b0 hbm
    repeat walk_at "m"
    refine m_itemx (ls.length - 1) hM (.own (.head _)) (.head _) (by decide) (by decide) (by rw [List.length_map]; exact sidxLast (by omega)) (e := .str b0) (by rw [List.getElem?_map, hbi]; rfl) fun v hM => ?_
    obtain ⟨u₃, rfl⟩ := hM.isStr (.head _)
    repeat walk_at "m"
    refine m_ifR hM (fun l' W' D' => ∃ (e : Nat) (ls' : List Str) (vs' : Array Value) (t₂ : Tok), emSt2 ls got = some (e, ls') ∧ e ≤ got.length ∧ ls'.length ≤ 100 ∧ (∀ p ∈ ls', p.length ≤ 100000) ∧
      l' = [(sx "startpos", .int s t₁), (sx "endpos", .int e t₂), (sx "ws", .ref a), (sx "got", .str got tg)] ∧ W' = [(a, .lst vs')] ∧ D' = (vs'.toList, ls'.map Da.str) :: D) (fun T hTn hTr => ?_) ?_
    · repeat walk_at "mi"
      refine m_tstr (by omega) ?_
      refine Both.of (fun e => ?_) fun e => ?_
      · repeat walk_at "mi"
        refine m_gm_ew ?_
        repeat walk_at "mi"
        refine m_ew' ?_
        repeat walk_at "mi"
        refine Both.of (fun e2 => ?_) fun e2 => ?_
        · have hble := ends_le e2
          repeat walk_at "mi"
          refine m_lens (by rw [sizeLine_eq]; omega) fun u => ?_
          refine m_isub ?_
          repeat walk_at "mi"
          refine m_del ?_
          repeat walk_at "mi"
          have ee : ((got.length : Nat) : Int) - ((b0.length : Nat) : Int) = ((got.length - b0.length : Nat) : Int) := by omega
          rw [ee] at hM
          refine m_dell hM (us := vs'.eraseIdxIfInBounds (vs'.size - 1)) (by walk_at "wup") (by decide) (j := vs'.size - 1) (sidxLast (by omega)) rfl (by omega) fun h t hM => ?_
          repeat walk_at "mi"
          refine m_ifend hTn hM (l' := [(sx "startpos", .int s t₁), (sx "endpos", .int ((got.length - b0.length : Nat) : Int) _), (sx "ws", .ref a), (sx "got", .str got tg)]) (D'' := ((vs'.eraseIdxIfInBounds (vs'.size - 1)).toList, ls.dropLast.map Da.str) :: D) ⟨got.length - b0.length, ls.dropLast, vs'.eraseIdxIfInBounds (vs'.size - 1), _, ?_, by omega, ?_, fun p hp => hlq p (List.dropLast_subset _ hp), rfl, rfl, rfl⟩ (by walk_at "kn") fun G g f hf' => ?_
          · unfold emSt2
            rw [hb0]
            dsimp only
            rw [if_neg (by simpa using e), if_pos e2]
          · rw [List.length_dropLast]; omega
          · rcases List.mem_cons.mp hf' with rfl | hf'
            · have h3 := g (vs'.toList, ls.map Da.str) (by walk_at "mem")
              rw [List.map_dropLast]
              exact da_eraseLast h3 (by omega)
            · exact g f (by walk_at "up2")
        · repeat walk_at "mi"
          refine hTr _ _ (Then.ret (m_fin hR (hM.pick (W' := []) (List.nil_sublist _)) fun hM => ?_))
          have e3 : emW (a0 :: r0) got = false := by
            unfold emW
            rw [hst]
            dsimp only
            unfold emSt2
            rw [hb0]
            dsimp only
            rw [if_neg (by simpa using e), e2]; rfl
          rw [← e3]
          exact q _ _ (Mst.sub (Mst.un0 hM) (by walk_at "up"))
      · repeat walk_at "mi"
        have eb : b0.length = 0 := by simpa using e
        refine m_ifend hTn hM (l' := [(sx "startpos", .int s t₁), (sx "endpos", .int (got.length : Nat) t₂), (sx "ws", .ref a), (sx "got", .str got tg)]) (D'' := (vs'.toList, ls.map Da.str) :: D) ⟨got.length, ls, vs', t₂, ?_, Nat.le_refl _, hl2, hlq, rfl, rfl, rfl⟩ (by walk_at "kn") fun G g f hf' => ?_
        · unfold emSt2
          rw [hb0]
          dsimp only
          rw [if_pos eb]
        · rcases List.mem_cons.mp hf' with rfl | hf'
          · exact g _ (by walk_at "mem")
          · exact g f (by walk_at "up2")
    · rintro l₁ W' D' h t ⟨e, ls', vs'', t₃, hst2, hel, hl3, hlq', rfl, rfl, rfl⟩ hM
      have hsz2 : vs''.size = ls'.length := by simpa using hM.has (.head _)
      have eW : emW (a0 :: r0) got = if s > e then false else emLoop got ls' s e := by
        unfold emW
        rw [hst]
        dsimp only
        rw [hst2]
      rw [eW] at q
      clear hst hst2 eW
      repeat walk_at "mi"
      refine Both.cond (fun eg => ?_) fun eg => ?_
      · rw [if_pos (by omega)] at q
        repeat walk_at "mi"
        exact m_fin hR (hM.pick (W' := []) (List.nil_sublist _)) fun hM => q _ _ (Mst.sub (Mst.un0 hM) (by walk_at "up"))
      · rw [if_neg (by omega)] at q
        repeat walk_at "mi"
        have hM' : Mst H0 B' G' L' _ ([(a, .lst vs'')] ++ []) _ _ := hM
        refine n_list hA'.h hE (by rfl) hM' (hM.lst (.own (.head _))) (hM.own _ (.head _)).2.2 (fun _ h => by cases h)
          (fun i l W' D' => ∃ (si : Nat) (ti : Tok), l = [(sx "startpos", .int si ti), (sx "endpos", .int e t₃), (sx "ws", .ref a), (sx "got", .str got tg)] ∧ W' = [] ∧ D' = (vs''.toList, ls'.map Da.str) :: D ∧ emLoop got (ls'.drop i) si e = emLoop got ls' s e) ⟨s, t₁, rfl, rfl, rfl, rfl⟩ ?_ ?_
        · rintro i v l₁ W' D' B₁ G₁ h t E' T hv ⟨si, ti, rfl, rfl, rfl, hem⟩ hM back hT
          have hi : i < ls'.length := by rw [← hsz2, ← Array.length_toList]; exact (List.getElem?_eq_some_iff.mp hv).1
          have hwi : ls'[i]? = some ls'[i] := List.getElem?_eq_getElem hi
          obtain ⟨v', hv', hM⟩ := hM.nth (.head _) (k := i) (d := .str ls'[i]) (by rw [List.getElem?_map, hwi]; rfl)
          rw [hv] at hv'
          cases hv'
          obtain ⟨uw, rfl⟩ := hM.isStr (.head _)
          have hlw := hlq' ls'[i] (List.getElem_mem hi)
          rw [List.drop_eq_getElem_cons hi] at hem
          generalize ls'[i] = wi at *
          rw [emLoop_cons] at hem
          repeat walk_at "mi"
          refine m_gm_find ?_
          repeat walk_at "mi"
          refine m_find4 hel ?_
          unfold find4
          cases ho : Builtin.Str.occurrences got wi si e 1 with
          | nil =>
            rw [ho] at hem
            repeat walk_at "mi"
            refine Both.cond (fun e5 => ?_) fun e5 => ?_
            · repeat walk_at "mi"
              refine hT.ret _ _ (Then.ret (m_fin hR (back _ _ _ _ hM |>.pick (W' := []) (List.nil_sublist _)) fun hM => ?_))
              rw [← hem] at q
              exact q _ _ (Mst.sub (Mst.un0 hM) (by walk_at "up"))
            · exact absurd e5 (by decide)
          | cons k ks =>
            rw [ho] at hem
            repeat walk_at "mi"
            refine Both.cond (fun e5 => absurd (show ((k : Nat) : Int) < 0 from e5) (by omega)) fun e5 => ?_
            repeat walk_at "mi"
            refine m_lens (by rw [sizeLine_eq]; omega) fun u => ?_
            repeat walk_at "mi"
            have ea : ((k : Nat) : Int) + ((wi.length : Nat) : Int) = ((k + wi.length : Nat) : Int) := by omega
            rw [ea] at hM
            exact m_tuf hT hM ⟨k + wi.length, _, rfl, rfl, rfl, hem⟩ (by walk_at "kn") fun G g f hf' => g f (.tail _ hf')
        · rintro l₁ W' D' h t ⟨si, ti, rfl, rfl, rfl, hem⟩ hM
          have hM : Mst H0 B' G' L' _ ([(a, .lst vs'')] ++ []) _ _ := hM
          rw [hsz2, List.drop_length, emLoop_nil] at hem
          repeat walk_at "mi"
          rw [← hem] at q
          exact m_fin hR (hM.pick (W' := []) (List.nil_sublist _)) fun hM => q _ _ (Mst.sub (Mst.un0 hM) (by walk_at "up"))
end
set_option hygiene false in
local macro_rules | `(tactic| walk_at "up2") => `(tactic| repeat (first | exact hf' | apply List.Mem.tail))
/-! ## _law_steps -/
def stepRow (n : Nat) : Row := (nameAt n, leadAt (n / 4))
def intsDa (l : List Nat) : List Da := l.map fun (n : Nat) => Da.int (n : Int)
theorem sign_name (n : Nat) : Txt.item (Str.ofString "aAbB") ((n % 4 : Nat) : Int) = nameAt n := by
  have h : n % 4 < 4 := Nat.mod_lt _ (by decide)
  unfold nameAt
  generalize n % 4 = k at h
  match k, h with
  | 0, _ => rfl
  | 1, _ => rfl
  | 2, _ => rfl
  | 3, _ => rfl
theorem c_steps {prog : Program} {w : World} {A : Around} {E : Value → Shared → Prop} {H0 : Heap} {B G₀ : Gr} {L : Addr} {m : Loc} {W : Own} {D : Facts} {h : Heap} {g : Array GenState} {d : Drawn} {t : Nat} {os : OsState}
    {a : Addr} {ns : List Nat} {Q : Value → Shared → Prop} (gd : Gd (KF w.params) H0) (hM : Mst H0 B G₀ L m W D h) (hA : Rm A 10 40) (hf : ([.ref a], [.lst (intsDa ns)]) ∈ D) (hns : ∀ n ∈ ns, n < 1000000) (hlen : ns.length ≤ 100)
    (q : ∀ r h' t', Mst H0 B G₀ L m W (([.ref r], [.lst ((ns.map stepRow).map rowDa)]) :: D) h' → Q (.ref r) ⟨h', g, d, t', os⟩) :
    wpAny (model prog w) A (call (.ref 266) [.ref a]) Q E ⟨h, g, d, t, os⟩ := by
  have hM' : Mst H0 B G₀ L m (W ++ []) D h := hM.app0
  refine m_def (binds := [(sx "numbers", .ref a)]) gd hM' (hA.le (d' := 9 + 1) (u' := 30 + 3) (by decide) (by decide)) (by rfl) (by rfl) (BindsTo.of_eq (by rfl)) (by rfl) ?_
  clear hM hM'
  intro env A' L' B' G' h t R E' hE hA' hM hR _
  repeat walk_at "mi"
  refine m_newW hM (by walk_at "size") fun st h t hM => ?_
  repeat walk_at "mi"
  obtain ⟨vs, o, hlo, hvs, hM⟩ := hM.open hf
  have hvs' : vs.size = ns.length := by rw [hvs]; unfold intsDa; rw [List.length_map]
  have hL := hM.lst (.kept (.tail _ (.head _)) hlo)
  have hM' := ((hM.know (l' := [(sx "steps", .ref st)]) (by walk_at "kn"))).with (f := ([], [])) fun _ _ => .nil
  have hM' : Mst H0 B' G' L' _ ([] ++ [(st, .lst #[])]) _ _ := hM'
  have hal : a ≠ L' := by
    obtain ⟨vs₂, -, -, z, -, -⟩ := hM.items (.tail _ (.tail _ hf))
    exact z
  have haW : ∀ p ∈ [(st, Wo.lst #[])], p.1 ≠ a := by
    obtain ⟨vs₂, -, z, -, -, -⟩ := hM.items (.tail _ (.tail _ hf))
    exact z
  refine n_list hA'.h hE (by rfl) hM' hL hal haW
    (fun i l W' D' => ∃ us : Array Value, l = [(sx "steps", .ref st)] ∧ W' = [(st, .lst us)] ∧ D' = (us.toList, ((ns.take i).map stepRow).map rowDa) :: (vs.toList, intsDa ns) :: ([.ref a], [.obj o]) :: D)
    ⟨#[], rfl, rfl, rfl⟩ ?_ ?_
  · rintro i v l₁ W' D' B₁ G₁ h t E' T hv ⟨us, rfl, rfl, rfl⟩ hM back hT
    have hi : i < ns.length := by rw [← hvs', ← Array.length_toList]; exact (List.getElem?_eq_some_iff.mp hv).1
    have hwi : ns[i]? = some ns[i] := List.getElem?_eq_getElem hi
    have hus : us.size ≤ 100 := by
      have := hM.has (.head _)
      rw [Array.length_toList, List.length_map, List.length_map, List.length_take] at this
      omega
    obtain ⟨v', hv', hM⟩ := hM.nth (.tail _ (.head _)) (k := i) (d := .int ns[i]) (by unfold intsDa; rw [List.getElem?_map, hwi]; rfl)
    rw [hv] at hv'
    cases hv'
    obtain ⟨un, rfl⟩ := hM.isInt (.head _)
    have hn := hns ns[i] (List.getElem_mem hi)
    generalize hni : ns[i] = n at *
    have e4 : ((n : Nat) : Int).fdiv 4 = ((n / 4 : Nat) : Int) := n_fdiv n 4
    have f3 : ((n / 4 : Nat) : Int).fmod 3 = ((n / 4 % 3 : Nat) : Int) := n_fmod _ 3
    have f32 : (((n / 4 : Nat) : Int).fdiv 3).fmod 2 = ((n / 4 / 3 % 2 : Nat) : Int) := by rw [show ((n / 4 : Nat) : Int).fdiv 3 = ((n / 4 / 3 : Nat) : Int) from n_fdiv _ 3]; exact n_fmod _ 2
    have f63 : (((n / 4 : Nat) : Int).fdiv 6).fmod 3 = ((n / 4 / 6 % 3 : Nat) : Int) := by rw [show ((n / 4 : Nat) : Int).fdiv 6 = ((n / 4 / 6 : Nat) : Int) from n_fdiv _ 6]; exact n_fmod _ 3
    have f182 : (((n / 4 : Nat) : Int).fdiv 18).fmod 2 = ((n / 4 / 18 % 2 : Nat) : Int) := by rw [show ((n / 4 : Nat) : Int).fdiv 18 = ((n / 4 / 18 : Nat) : Int) from n_fdiv _ 18]; exact n_fmod _ 2
    have f362 : (((n / 4 : Nat) : Int).fdiv 36).fmod 2 = ((n / 4 / 36 % 2 : Nat) : Int) := by rw [show ((n / 4 : Nat) : Int).fdiv 36 = ((n / 4 / 36 : Nat) : Int) from n_fdiv _ 36]; exact n_fmod _ 2
    have fx : ((n : Nat) : Int).fmod 4 = ((n % 4 : Nat) : Int) := n_fmod n 4
    repeat walk_at "mi"
    rw [e4] at hM ⊢
    refine m_muls (c := 32) (by rfl) f3 (by omega) fun _ _ => ?_
    repeat walk_at "mi"
    refine m_muls (c := 9) (by rfl) f32 (by omega) fun _ _ => ?_
    repeat walk_at "mi"
    rw [app_rep]
    refine m_muls (c := 32) (by rfl) f63 (by omega) fun _ _ => ?_
    repeat walk_at "mi"
    rw [app_rep]
    refine m_muls (c := 9) (by rfl) f182 (by omega) fun _ _ => ?_
    repeat walk_at "mi"
    rw [app_rep] at hM
    refine m_sign fx (by show _ < 4; omega) (by decide) (sign_name n) ?_
    repeat walk_at "mi"
    refine m_muls (c := 32) (by rfl) f362 (by omega) fun _ _ => ?_
    repeat walk_at "mi"
    rw [app_rep]
    refine m_newT hM (ds := [.str (nameAt n), .str (leadAt (n / 4))]) (by walk_at "fact") (by walk_at "size") fun T₁ h t hM => ?_
    repeat walk_at "mi"
    refine m_tuf hT hM ⟨us.push (.ref T₁), rfl, rfl, rfl⟩ (by walk_at "kn") fun G g f hf' => ?_
    rcases List.mem_cons.mp hf' with rfl | hf'
    · rw [take_snoc' hwi, List.map_append]
      have hT₁ : DaIn G (.ref T₁) (rowDa (stepRow n)) := (g ([.ref T₁], [Da.tup [.str (nameAt n), .str (leadAt (n / 4))]]) (by walk_at "mem")).head
      have hU : DaAll G us.toList (((ns.take i).map stepRow).map rowDa) := g (us.toList, ((ns.take i).map stepRow).map rowDa) (by walk_at "mem")
      exact row_push hU hT₁
    · exact g f (by walk_at "up2")
  · rintro l₁ W' D' h t ⟨us, rfl, rfl, rfl⟩ hM
    have hM : Mst H0 B' G' L' _ ([] ++ [(st, .lst us)]) _ _ := hM
    rw [hvs', List.take_length] at hM
    repeat walk_at "mi"
    have hM := Mst.freezeL hM (ds := (ns.map stepRow).map rowDa) fun G g => g _ (.head _)
    refine m_fin hR hM fun hM => q _ _ _ (Mst.sub (Mst.un0 hM) fun f hf => ?_)
    rcases List.mem_cons.mp hf with rfl | hf
    · exact .head _
    · exact .tail _ (.tail _ (.tail _ (.tail _ hf)))
set_option hygiene false in
local macro_rules | `(tactic| walk_at "up2") => `(tactic| repeat (first | exact hf' | apply List.Mem.tail))
/-! ## _law_kept -/
def sameRows (rs : List Row) (nm : Str) : List Row := rs.filter fun r => Txt.lower r.1 == Txt.lower nm
def colsGe (x y : Str) (i : Nat) : Bool := decide ((cols x).getD i 0 ≥ (cols y).getD i 0)
def keptF (rs : List Row) (nm ld : Str) : List Row × Option Str :=
  match (sameRows rs nm).getLast?, (sameRows rs nm).head? with
  | some l, some f => if ((List.range 6).filter (colsGe l.2 ld)).isEmpty then (rs ++ [(nm, ld)], none) else if cols l.2 = cols ld then (rs, some f.2)
    else (rs.filter (fun r => !(sameRows rs nm).contains r) ++ [(nm, ld)], none)
  | _, _ => (rs ++ [(nm, ld)], some ld)
theorem cols_len (x : Str) : (cols x).length = 6 := by unfold cols; rw [List.length_map, List.length_range]
theorem eqv_nil (ds : List Da) : PyData.eqv (Da.lst ds).py (Da.lst []).py = ds.isEmpty := by
  cases ds with
  | nil => rfl
  | cons d ds => rfl
theorem cm_nil : Cm (.lst []) := ⟨rfl, rfl, by decide⟩
theorem cm_nats (l : List Nat) : Cm (.lst (natsDa l)) := by
  refine ⟨?_, ?_, ?_⟩
  · simp [Da.pl, pls_nats]
  · simp [Da.py, pys_nats, PyData.canLay0, lay_nats]
  · simp [Da.py, pys_nats, PyData.depth, dep_nats]
theorem eqv_nats (l k : List Nat) : PyData.eqv (Da.lst (natsDa l)).py (Da.lst (natsDa k)).py = decide (l = k) := by
  simp only [Da.py, pys_nats, PyData.eqv, eqvAll_nats]
/-- rows that may be compared -/
def Rk (r : Row) : Prop := PyData.strOk r.1 = true ∧ PyData.strOk r.2 = true
theorem row_lay {r : Row} (k : Rk r) : (rowDa r).py.canLay0 = true := by simp [rowDa, Da.py, Da.pys, PyData.canLay0, PyData.canLayAll0, k.1, k.2]
theorem row_dep (r : Row) : (rowDa r).py.depth ≤ 1 := by simp [rowDa, Da.py, Da.pys, PyData.depth, PyData.depthAll]
theorem cm_row {r : Row} (k : Rk r) : Cm (rowDa r) := ⟨rfl, row_lay k, Nat.le_trans (row_dep r) (by decide)⟩
theorem pls_rows (rs : List Row) : Da.pls (rs.map rowDa) = true := by
  induction rs with
  | nil => rfl
  | cons r rs ih => rw [List.map_cons, Da.pls, ih]; rfl
theorem lay_rows {rs : List Row} (k : ∀ r ∈ rs, Rk r) : PyData.canLayAll0 (Da.pys (rs.map rowDa)) = true := by
  induction rs with
  | nil => rfl
  | cons r rs ih => rw [List.map_cons, Da.pys, PyData.canLayAll0, ih fun r h => k r (.tail _ h), row_lay (k r (.head _))]; rfl
theorem dep_rows (rs : List Row) : PyData.depthAll (Da.pys (rs.map rowDa)) ≤ 1 := by
  induction rs with
  | nil => decide
  | cons r rs ih =>
    rw [List.map_cons, Da.pys, PyData.depthAll]
    exact Nat.max_le.mpr ⟨row_dep r, ih⟩
theorem cm_rows {rs : List Row} (k : ∀ r ∈ rs, Rk r) : Cm (.lst (rs.map rowDa)) := by
  refine ⟨?_, ?_, ?_⟩
  · rw [Da.pl]; exact pls_rows rs
  · rw [Da.py, PyData.canLay0]; exact lay_rows k
  · rw [Da.py, PyData.depth]; have := dep_rows rs; omega
theorem eqv_row (r k : Row) : PyData.eqv (rowDa r).py (rowDa k).py = decide (r = k) := by
  unfold rowDa
  simp only [Da.py, Da.pys, PyData.eqv, PyData.eqvAll, Bool.and_true]
  rw [Bool.eq_iff_iff, Bool.and_eq_true, beq_iff_eq, beq_iff_eq, decide_eq_true_eq]
  exact ⟨fun ⟨a, b⟩ => Prod.ext a b, fun e => by rw [e]; exact ⟨rfl, rfl⟩⟩
theorem eqv_rows (rs ks : List Row) : PyData.eqv (Da.lst (rs.map rowDa)).py (Da.lst (ks.map rowDa)).py = decide (rs = ks) := by
  have h : ∀ rs ks : List Row, PyData.eqvAll (Da.pys (rs.map rowDa)) (Da.pys (ks.map rowDa)) = decide (rs = ks) := by
    intro rs
    induction rs with
    | nil => intro ks; cases ks <;> rfl
    | cons r rs ih =>
      intro ks
      cases ks with
      | nil => rfl
      | cons k ks =>
        rw [List.map_cons, List.map_cons, Da.pys, Da.pys, PyData.eqvAll, ih, eqv_row, Bool.eq_iff_iff]
        simp only [Bool.and_eq_true, decide_eq_true_eq, List.cons.injEq]
  rw [Da.py, Da.py, PyData.eqv]
  exact h rs ks
theorem any_rows (rs : List Row) (r : Row) : ((Da.pys (rs.map rowDa)).any fun y => PyData.eqv y (rowDa r).py) = rs.contains r := by
  induction rs with
  | nil => rfl
  | cons k rs ih =>
    rw [List.map_cons, Da.pys, List.any_cons, ih, eqv_row, List.contains_cons]
    congr 1
    rw [Bool.eq_iff_iff, decide_eq_true_eq, beq_iff_eq]
    exact eq_comm
section
variable {prog : Program} {w : World} {A : Around} {E : Value → Shared → Prop} {H0 : Heap} {B G₀ : Gr} {L : Addr} {m : Loc} {W : Own} {D : Facts} {h : Heap} {g : Array GenState} {d : Drawn} {t : Nat} {os : OsState}
theorem c_kept {a : Addr} {rs : List Row} {nm ld : Str} {tn tl : Tok} {Q : Value → Shared → Prop} (gd : Gd (KF w.params) H0) (hM : Mst H0 B G₀ L m W D h) (hA : Rm A 14 60) (hf : ([.ref a], [.lst (rs.map rowDa)]) ∈ D)
    (hlen : rs.length ≤ 1000) (hrl : ∀ r ∈ rs, r.1.length ≤ 1000) (hn : nm.length ≤ 1000) (hrk : ∀ r ∈ rs, Rk r)
    (q : ∀ T h' t', Mst H0 B G₀ L m W (([.ref T], [.tup [.lst ((keptF rs nm ld).1.map rowDa), optDa (keptF rs nm ld).2 .none]]) :: D) h' → Q (.ref T) ⟨h', g, d, t', os⟩) :
    wpAny (model prog w) A (call (.ref 278) [.ref a, .str nm tn, .str ld tl]) Q E ⟨h, g, d, t, os⟩ := by
  have hM' : Mst H0 B G₀ L m (W ++ []) D h := hM.app0
  refine m_defC2 (binds := [(sx "rows", .ref a), (sx "name", .str nm tn), (sx "lead", .str ld tl)]) (lbinds := [(sx "rows", .ref a), (sx "lead", .str ld tl)]) (cn := sx "name") (cn' := sx "same") (cv := some (.str nm tn)) gd hM' (hA.le (d' := 13 + 1) (u' := 54 + 3) (by decide) (by decide)) (by rfl) (by rfl) (by rfl) (by rfl) (by intro _; rfl) (by rfl) (by rfl) (by walk_at "kn") rfl rfl ?_
  clear hM hM'
  intro env A' L' c c' B' G' h t R E' hE hA' hM hR _
  have hsk : ∀ r ∈ sameRows rs nm, Rk r := fun r hr => hrk r (List.mem_filter.mp hr).1
  obtain ⟨vs, o, hlo, hvs, hM⟩ := hM.open hf
  rw [List.length_map] at hvs
  have hM := hM.with (f := ([.ref a], [.lst (rs.map rowDa)])) fun G g => g _ (.tail _ (.tail _ hf))
  have lin : ∀ {W : Own} {D' : Facts}, (∀ f ∈ (([Value.ref a], [Da.lst (rs.map rowDa)]) :: (vs.toList, rs.map rowDa) :: ([Value.ref a], [Da.obj o]) :: D), f ∈ D') → LstIn W D' a vs := fun k => .kept (k _ (.tail _ (.tail _ (.head _)))) hlo
  repeat walk_at "mi"
  refine m_asgc (swaps_cell hE (by rfl)) ?_
  refine m_comp (fun r => Txt.lower r.1 == Txt.lower nm) rowDa hM (.tail _ (.head _)) (closure_one hE (by rfl) (by rfl)) fun p F hpf => ?_
  repeat walk_at "mi"
  refine m_compgo hpf hA'.h hM (hM.lst (lin (by walk_at "up"))) (.tail _ (.head _)) hlen ?_ ?_ ?_
  · intro C₁ r v h₃ g₃ d₃ t os₃ m₃ E' hr hv hN hm kk
    refine r_if1 ?_
    repeat walk_at "mi"
    refine r_ld (compEnvIs hE (by rfl)) hN hm (by rfl) ?_
    repeat walk_at "mi"
    refine r_row0 hv fun tk => ?_
    have hr1 := hrl r hr
    repeat walk_at "mi"
    refine r_cell (compEnvIs hE (by rfl)) (by rfl) (by rfl) ((hM.own _ (.head _)).1.at fun o e => kk _ o e) ?_
    repeat walk_at "mi"
    exact ⟨rfl, _, rfl⟩
  · intro C₁ r v h₃ g₃ d₃ t os₃ m₃ E' hr ht hv hN hm kk
    refine r_ld (compEnvIs hE (by rfl)) hN hm (by rfl) ?_
    exact ⟨fun G h => h, _, rfl⟩
  · intro sa ys h t hM
    have hM := hM.freezeL (ds := (sameRows rs nm).map rowDa) fun G g => g _ (.head _)
    refine m_stc hE hM (by rfl) (by rfl) (by walk_at "wup") fun h t hM => ?_
    repeat walk_at "mi"
    refine m_ldc hE hM (by rfl) (by rfl) (by walk_at "mem") ?_
    repeat walk_at "mi"
    refine m_newL hM (ds := []) (by walk_at "fact") (by walk_at "size") fun e₀ h t hM => ?_
    refine m_eqd (hA'.le (d' := 0) (by decide) (by decide)) hM (by walk_at "mem") (.head _) (cm_rows hsk) cm_nil ?_
    rw [eqv_nil]
    have hys : ys.size ≤ 1000 := by
      have := hM.has (vs := ys.toList) (by walk_at "mem")
      rw [Array.length_toList, List.length_map] at this
      rw [this]
      exact Nat.le_trans (List.length_filter_le _ _) hlen
    have hlen' : ((sameRows rs nm).map rowDa).length ≤ 1000 := by
      rw [List.length_map]; exact Nat.le_trans (List.length_filter_le _ _) hlen
    -- a new row laid behind
    repeat walk_at "mi"
    refine Both.of (fun es => ?_) fun es => ?_
    · have es' : sameRows rs nm = [] := by simpa using es
      have ek : keptF rs nm ld = (rs ++ [(nm, ld)], some ld) := by unfold keptF; rw [es']; rfl
      rw [ek] at q
      repeat walk_at "mi"
      refine m_ldc hE hM (by rfl) (by rfl) (by walk_at "mem") ?_
      repeat walk_at "mi"
      refine m_newT hM (ds := [.str nm, .str ld]) (by walk_at "fact") (by walk_at "size") fun T₁ h t hM => ?_
      repeat walk_at "mi"
      refine m_newW hM (by walk_at "size") fun z h t hM => ?_
      refine m_addl hM (lin (by walk_at "up")) (.own (.head _)) (by simp [hvs]; walk_at "size") fun r h t hM => ?_
      have hM := hM.freezeL (ds := (rs ++ [(nm, ld)]).map rowDa) fun G g => by
        rw [List.toList_toArray, List.map_append]
        exact DaAll.append (g (vs.toList, rs.map rowDa) (by walk_at "mem")) (.one (g ([.ref T₁], [Da.tup [.str nm, .str ld]]) (by walk_at "mem")).head)
      repeat walk_at "mi"
      refine m_newT hM (ds := [.lst ((rs ++ [(nm, ld)]).map rowDa), .str ld]) (by walk_at "fact") (by walk_at "size") fun T h t hM => ?_
      repeat walk_at "mi"
      refine m_fin hR (hM.pick (W' := []) (List.nil_sublist _)) fun hM => q _ _ _ (Mst.sub (Mst.un0 hM) fun f hf' => ?_)
      rcases List.mem_cons.mp hf' with rfl | hf'
      · exact .head _
      · walk_at "up2"
    · obtain ⟨l0, hl0⟩ : ∃ l0, (sameRows rs nm).getLast? = some l0 := by
        cases e : (sameRows rs nm).getLast? with
        | none => rw [List.getLast?_eq_none_iff] at e; rw [e] at es; exact absurd es (by decide)
        | some b => exact ⟨b, rfl⟩
      obtain ⟨f0, hf0⟩ : ∃ f0, (sameRows rs nm).head? = some f0 := by
        cases e : (sameRows rs nm).head? with
        | none => rw [List.head?_eq_none_iff] at e; rw [e] at es; exact absurd es (by decide)
        | some b => exact ⟨b, rfl⟩
      have hpos : 0 < (sameRows rs nm).length := by
        cases e : sameRows rs nm with
        | nil => rw [e] at hl0; cases hl0
        | cons _ _ => simp
      have ek : keptF rs nm ld = if ((List.range 6).filter (colsGe l0.2 ld)).isEmpty then (rs ++ [(nm, ld)], none) else if cols l0.2 = cols ld then (rs, some f0.2)
          else (rs.filter (fun r => !(sameRows rs nm).contains r) ++ [(nm, ld)], none) := by unfold keptF; rw [hl0, hf0]
      rw [ek] at q
      have hli : (sameRows rs nm)[(sameRows rs nm).length - 1]? = some l0 := by rw [← List.getLast?_eq_getElem?]; exact hl0
      have hfi : (sameRows rs nm)[0]? = some f0 := by rw [← List.head?_eq_getElem?]; exact hf0
      repeat walk_at "mi"
      refine m_ldc hE hM (by rfl) (by rfl) (by walk_at "mem") ?_
      repeat walk_at "mi"
      refine m_itemf ((sameRows rs nm).length - 1) hM (by walk_at "mem") (by decide) (by decide) (by rw [List.length_map]; exact sidxLast hpos) (e := rowDa l0) (by rw [List.getElem?_map, hli]; rfl) fun v hM => ?_
      obtain ⟨lt, rfl⟩ := hM.isTup (ds := [.str l0.1, .str l0.2]) (.head _)
      repeat walk_at "mi"
      refine m_itemt (ds := [.str l0.1, .str l0.2]) 1 hM (.head _) (by decide) (by decide) (by rfl) (by rfl) fun v hM => ?_
      obtain ⟨tv, rfl⟩ := hM.isStr (.head _)
      repeat walk_at "mi"
      refine c_columns gd hM (hA'.le (by decide) (by decide)) fun c₁ h t hM => ?_
      repeat walk_at "mi"
      refine c_columns gd hM (hA'.le (by decide) (by decide)) fun c₂ h t hM => ?_
      repeat walk_at "mi"
      refine m_newT hM (ds := [.lst (natsDa (cols l0.2)), .lst (natsDa (cols ld))]) (by walk_at "fact") (by walk_at "size") fun tp h t hM => ?_
      refine m_un2s hA'.h hM (by walk_at "mem") fun v₁ v₂ h t hM => ?_
      obtain ⟨o₁, rfl⟩ := hM.isLst (.head _)
      obtain ⟨o₂, rfl⟩ := hM.isLst (v := v₂) (.tail _ (.head _))
      repeat walk_at "mi"
      refine m_comp2 (n := (cols l0.2).length) (colsGe l0.2 ld) (fun i z => ∀ G : Gr, DaIn G z (Da.int ((1 : Nat) : Int))) hA'.h (closure_none2 (by rfl)) ?_
      repeat walk_at "mi"
      refine m_c2zip (ns := cols l0.2) (ks := cols ld) (o := fun _ => Da.int ((1 : Nat) : Int)) hA'.h hM (by walk_at "mem") (by walk_at "mem") (by rw [cols_len]; decide) (by rw [cols_len, cols_len]) ?_ ?_ ?_
      · intro C₁ i n k t₁ t₂ h₃ g₃ d₃ t os₃ m₃ E' h1 h2 hN e1 e2
        refine r_if1 ?_
        repeat walk_at "mi"
        refine r_ld (compEnvIs hE (by rfl)) hN e1 (by rfl) ?_
        refine r_ld (compEnvIs hE (by rfl)) hN e2 (by rfl) ?_
        repeat walk_at "mi"
        refine ⟨?_, _, rfl⟩
        unfold colsGe
        rw [List.getD_eq_getElem?_getD, List.getD_eq_getElem?_getD, h1, h2]
        exact decide_eq_decide.mpr (by simp)
      · intro C₁ i n k t₁ t₂ h₃ g₃ d₃ t os₃ m₃ E' h1 h2 hN e1 e2
        repeat walk_at "mi"
        exact ⟨fun G => .int _ _, _, rfl⟩
      · intro sz ys₂ h t hM
        rw [cols_len] at hM
        have hM := hM.freezeL (ds := natsDa (((List.range 6).filter (colsGe l0.2 ld)).map fun _ => 1)) fun G g => by
          unfold natsDa
          rw [List.map_map]
          exact g _ (.head _)
        repeat walk_at "mi"
        refine m_newL hM (ds := []) (by walk_at "fact") (by walk_at "size") fun e₁ h t hM => ?_
        refine m_eqd (hA'.le (d' := 0) (by decide) (by decide)) hM (.tail _ (.head _)) (.head _) (cm_nats _) cm_nil ?_
        rw [eqv_nil]
        have ee : (natsDa (((List.range 6).filter (colsGe l0.2 ld)).map fun _ => 1)).isEmpty = ((List.range 6).filter (colsGe l0.2 ld)).isEmpty := by unfold natsDa; simp
        rw [ee]
        repeat walk_at "mi"
        refine Both.of (fun e1 => ?_) fun e1 => ?_
        · rw [if_pos e1] at q
          repeat walk_at "mi"
          refine m_ldc hE hM (by rfl) (by rfl) (by walk_at "mem") ?_
          repeat walk_at "mi"
          refine m_newT hM (ds := [.str nm, .str ld]) (by walk_at "fact") (by walk_at "size") fun T₁ h t hM => ?_
          repeat walk_at "mi"
          refine m_newW hM (by walk_at "size") fun z h t hM => ?_
          refine m_addl hM (lin (by walk_at "up")) (.own (.head _)) (by simp [hvs]; walk_at "size") fun r h t hM => ?_
          have hM := hM.freezeL (ds := (rs ++ [(nm, ld)]).map rowDa) fun G g => by
            rw [List.toList_toArray, List.map_append]
            exact DaAll.append (g (vs.toList, rs.map rowDa) (by walk_at "mem")) (.one (g ([.ref T₁], [Da.tup [.str nm, .str ld]]) (by walk_at "mem")).head)
          repeat walk_at "mi"
          refine m_newT hM (ds := [.lst ((rs ++ [(nm, ld)]).map rowDa), .none]) (by walk_at "fact") (by walk_at "size") fun T h t hM => ?_
          repeat walk_at "mi"
          refine m_fin hR (hM.pick (W' := []) (List.nil_sublist _)) fun hM => q _ _ _ (Mst.sub (Mst.un0 hM) fun f hf' => ?_)
          rcases List.mem_cons.mp hf' with rfl | hf'
          · exact .head _
          · walk_at "up2"
        · rw [if_neg (by rw [e1]; decide)] at q
          repeat walk_at "mi"
          refine m_eqd (hA'.le (d' := 0) (by decide) (by decide)) hM (by walk_at "mem") (by walk_at "mem") (cm_nats (cols l0.2)) (cm_nats (cols ld)) ?_
          rw [eqv_nats]
          repeat walk_at "mi"
          refine Both.cond (fun e2 => ?_) fun e2 => ?_
          · rw [if_pos e2] at q
            repeat walk_at "mi"
            refine m_ldc hE hM (by rfl) (by rfl) (by walk_at "mem") ?_
            repeat walk_at "mi"
            refine m_itemf (ds := (sameRows rs nm).map rowDa) 0 hM (by walk_at "mem") (by decide) (by decide) (sidx (n := 0) (by rw [List.length_map]; exact hpos)) (e := rowDa f0) (by rw [List.getElem?_map, hfi]; rfl) fun v hM => ?_
            obtain ⟨ft, rfl⟩ := hM.isTup (ds := [.str f0.1, .str f0.2]) (.head _)
            repeat walk_at "mi"
            refine m_itemt (ds := [.str f0.1, .str f0.2]) 1 hM (.head _) (by decide) (by decide) (by rfl) (by rfl) fun v hM => ?_
            obtain ⟨tv₂, rfl⟩ := hM.isStr (.head _)
            repeat walk_at "mi"
            refine m_newT hM (ds := [.lst (rs.map rowDa), .str f0.2]) (by walk_at "fact") (by walk_at "size") fun T h t hM => ?_
            repeat walk_at "mi"
            refine m_fin hR (hM.pick (W' := []) (List.nil_sublist _)) fun hM => q _ _ _ (Mst.sub (Mst.un0 hM) fun f hf' => ?_)
            rcases List.mem_cons.mp hf' with rfl | hf'
            · exact .head _
            · walk_at "up2"
          · rw [if_neg e2] at q
            repeat walk_at "mi"
            refine m_comp (fun r => !(sameRows rs nm).contains r) rowDa hM (vs := vs) (rs := rs) (by walk_at "mem") (closure_one hE (by rfl) (by rfl)) fun p F hpf => ?_
            repeat walk_at "mi"
            refine m_compgo hpf hA'.h hM (hM.lst (lin (by walk_at "up"))) (by walk_at "mem") hlen ?_ ?_ ?_
            · intro C₁ r v h₃ g₃ d₃ t os₃ m₃ E' hr hv hN hm kk
              refine r_if1 ?_
              repeat walk_at "mi"
              refine r_ld (compEnvIs hE (by rfl)) hN hm (by rfl) ?_
              refine r_cell (compEnvIs hE (by rfl)) (by rfl) (by rfl) ((hM.own (c', .cell (some (.ref sa))) (by walk_at "mem")).1.at fun o e => kk _ o e) ?_
              obtain ⟨G, gh, gf⟩ := hM.told
              have hs : DaIn h₃.get? (.ref sa) (.lst ((sameRows rs nm).map rowDa)) := (((gf ([.ref sa], [.lst ((sameRows rs nm).map rowDa)]) (by walk_at "mem")).head).mono gh).mono kk
              refine r_notin (hA'.le (d' := 0) (by decide) (by decide)) hv hs (cm_row (hrk r hr)) (cm_rows hsk) ?_
              rw [any_rows]
              repeat walk_at "mi"
              exact ⟨rfl, _, rfl⟩
            · intro C₁ r v h₃ g₃ d₃ t os₃ m₃ E' hr ht hv hN hm kk
              refine r_ld (compEnvIs hE (by rfl)) hN hm (by rfl) ?_
              exact ⟨fun G h => h, _, rfl⟩
            · intro fl ys₃ h t hM
              have hy3 : ys₃.size ≤ 1000 := by
                have := hM.has (vs := ys₃.toList) (by walk_at "mem")
                rw [Array.length_toList, List.length_map] at this
                rw [this]
                exact Nat.le_trans (List.length_filter_le _ _) hlen
              repeat walk_at "mi"
              refine m_ldc hE hM (by rfl) (by rfl) (by walk_at "mem") ?_
              repeat walk_at "mi"
              refine m_newT hM (ds := [.str nm, .str ld]) (by walk_at "fact") (by walk_at "size") fun T₁ h t hM => ?_
              repeat walk_at "mi"
              refine m_newW hM (by walk_at "size") fun z h t hM => ?_
              refine m_addl hM (.own (by walk_at "mem")) (.own (.head _)) (by simp; walk_at "size") fun r h t hM => ?_
              have hM := hM.freezeL (ds := ((rs.filter fun r => !(sameRows rs nm).contains r) ++ [(nm, ld)]).map rowDa) fun G g => by
                rw [List.toList_toArray, List.map_append]
                exact DaAll.append (g (ys₃.toList, (rs.filter fun r => !(sameRows rs nm).contains r).map rowDa) (by walk_at "mem")) (.one (g ([.ref T₁], [Da.tup [.str nm, .str ld]]) (by walk_at "mem")).head)
              repeat walk_at "mi"
              refine m_newT hM (ds := [.lst (((rs.filter fun r => !(sameRows rs nm).contains r) ++ [(nm, ld)]).map rowDa), .none]) (by walk_at "fact") (by walk_at "size") fun T h t hM => ?_
              repeat walk_at "mi"
              refine m_fin hR (hM.pick (W' := []) (List.nil_sublist _)) fun hM => q _ _ _ (Mst.sub (Mst.un0 hM) fun f hf' => ?_)
              rcases List.mem_cons.mp hf' with rfl | hf'
              · exact .head _
              · walk_at "up2"
end
set_option hygiene false in
local macro_rules | `(tactic| walk_at "up2") => `(tactic| repeat (first | exact hf' | apply List.Mem.tail))
/-! ## _law_put -/
theorem len_app (a b : Str) : (a ++ b).length = a.length + b.length := by
  show (a.cps ++ b.cps).size = _
  rw [Array.size_append]; rfl
def xTab : Str := ⟨#[120, 9]⟩
def putF (rs : List Row) (nm ld : Str) : List Row × Option Str :=
  match (sameRows rs nm).getLast? with
  | none => (if (getRows rs (Txt.lower nm)).isSome then rs else rs ++ [(nm, ld)], some ((getRows rs (Txt.lower nm)).getD ld))
  | some l => if wsLess (wsOf l.2) (wsOf (ld ++ xTab)) then (rs ++ [(nm, ld)], none)
    else if (wsOf l.2).count = (wsOf (ld ++ xTab)).count ∧ (wsOf l.2).b = (wsOf (ld ++ xTab)).b then (if (getRows rs (Txt.lower nm)).isSome then rs else rs ++ [(nm, ld)], some ((getRows rs (Txt.lower nm)).getD ld))
    else (offRows rs (Txt.lower nm) ++ [(nm, ld)], none)
theorem all_same (rs : List Row) (nm : Str) : allRows rs (Txt.lower nm) = (sameRows rs nm).map (·.2) := rfl
theorem pls_strs (xs : List Str) : Da.pls (xs.map Da.str) = true := by
  induction xs with
  | nil => rfl
  | cons r rs ih => rw [List.map_cons, Da.pls, ih]; rfl
theorem lay_strs {xs : List Str} (k : ∀ x ∈ xs, PyData.strOk x = true) : PyData.canLayAll0 (Da.pys (xs.map Da.str)) = true := by
  induction xs with
  | nil => rfl
  | cons x xs ih => rw [List.map_cons, Da.pys, PyData.canLayAll0, ih fun r h => k r (.tail _ h), Da.py, PyData.canLay0, k x (.head _)]; rfl
theorem dep_strs (xs : List Str) : PyData.depthAll (Da.pys (xs.map Da.str)) = 0 := by
  induction xs with
  | nil => rfl
  | cons x xs ih => rw [List.map_cons, Da.pys, PyData.depthAll, ih]; rfl
theorem cm_strs {xs : List Str} (k : ∀ x ∈ xs, PyData.strOk x = true) : Cm (.lst (xs.map Da.str)) := by
  refine ⟨?_, ?_, ?_⟩
  · rw [Da.pl]; exact pls_strs xs
  · rw [Da.py, PyData.canLay0]; exact lay_strs k
  · rw [Da.py, PyData.depth]; have := dep_strs xs; omega
section
variable {prog : Program} {w : World} {A : Around} {E : Value → Shared → Prop} {H0 : Heap} {B G₀ : Gr} {L : Addr} {m : Loc} {W : Own} {D : Facts} {h : Heap} {g : Array GenState} {d : Drawn} {t : Nat} {os : OsState}
theorem c_put {x lst : Addr} {vs : Array Value} {rs : List Row} {nm ld : Str} {tn tl : Tok} {Q : Value → Shared → Prop} (gd : Gd (KF w.params) H0) (hM : Mst H0 B G₀ L m ((lst, .lst vs) :: W) D h) (hA : Rm A 18 80) (hx : TabAt D x lst)
    (hf : (vs.toList, rs.map rowDa) ∈ D) (hlen : rs.length ≤ 900) (hrs : ∀ r ∈ rs, RowOk r) (hr : RowOk (nm, ld)) (hrk : ∀ r ∈ rs, Rk r) (hlr : ∀ r ∈ rs, r.2.length ≤ 900) (hll : ld.length ≤ 900)
    (hws : ∀ r ∈ rs, WsFit (wsOf r.2)) (hwl : WsFit (wsOf (ld ++ xTab)))
    (q : ∀ vs' v h' t', Mst H0 B G₀ L m ((lst, .lst vs') :: W) (([v], [optDa (putF rs nm ld).2 .none]) :: (vs'.toList, (putF rs nm ld).1.map rowDa) :: D) h' → Q v ⟨h', g, d, t', os⟩) :
    wpAny (model prog w) A (call (.ref 285) [.ref x, .str nm tn, .str ld tl]) Q E ⟨h, g, d, t, os⟩ := by
  have hM' : Mst H0 B G₀ L m ([] ++ ((lst, .lst vs) :: W)) D h := hM
  refine m_def (binds := [(sx "table", .ref x), (sx "name", .str nm tn), (sx "lead", .str ld tl)]) gd hM' (hA.le (d' := 17 + 1) (u' := 74 + 3) (by decide) (by decide)) (by rfl) (by rfl) (BindsTo.of_eq (by rfl)) (by rfl) ?_
  clear hM hM'
  intro env A' L' B' G' h t R E' hE hA' hM hR _
  have hrl : ∀ r ∈ rs, r.1.length ≤ 1000 := fun r h => (hrs r h).name.len
  repeat walk_at "mi"
  refine m_hm gd hM hx (by walk_at "up") (hd_f_getall _) (t_194 _) (by rfl) ?_
  repeat walk_at "mi"
  refine c_getall gd hM (hA'.le (by decide) (by decide)) hx hf (by omega) hrl hr.name.len hr.name.low fun hl h t hM => ?_
  rw [all_same] at hM
  have hsk : ∀ z ∈ (sameRows rs nm).map (·.2), PyData.strOk z = true := fun z hz => by
    obtain ⟨r, hr, rfl⟩ := List.mem_map.mp hz
    exact (hrk r (List.mem_filter.mp hr).1).2
  repeat walk_at "mi"
  refine m_newL hM (ds := []) (by walk_at "fact") (by walk_at "size") fun e₀ h t hM => ?_
  refine m_eqd (hA'.le (d' := 0) (by decide) (by decide)) hM (by walk_at "mem") (.head _) (cm_strs hsk) cm_nil ?_
  rw [eqv_nil]
  repeat walk_at "mi"
  refine Both.of (fun es => ?_) fun es => ?_
  · have es' : sameRows rs nm = [] := by simpa using es
    have ek : putF rs nm ld = (if (getRows rs (Txt.lower nm)).isSome then rs else rs ++ [(nm, ld)], some ((getRows rs (Txt.lower nm)).getD ld)) := by unfold putF; rw [es']; rfl
    rw [ek] at q
    repeat walk_at "mi"
    refine m_hm gd hM hx (by walk_at "up") (hd_f_setdefault _) (t_245 _) (by rfl) ?_
    repeat walk_at "mi"
    refine c_setdefault gd hM (hA'.le (by decide) (by decide)) (hx.mono (by walk_at "up")) (.tail _ (.tail _ hf)) hrs hr (by omega) fun vs' v h t hM => ?_
    repeat walk_at "mi"
    refine m_fin hR hM fun hM => q vs' v _ _ (Mst.sub hM fun f hf' => ?_)
    rcases List.mem_cons.mp hf' with rfl | hf'
    · exact .head _
    rcases List.mem_cons.mp hf' with rfl | hf'
    · exact .tail _ (.head _)
    · walk_at "up2"
  · obtain ⟨l0, hl0⟩ : ∃ l0, (sameRows rs nm).getLast? = some l0 := by
      cases e : (sameRows rs nm).getLast? with
      | none => rw [List.getLast?_eq_none_iff] at e; rw [e] at es; exact absurd es (by decide)
      | some b => exact ⟨b, rfl⟩
    have hpos : 0 < (sameRows rs nm).length := by
      cases e : sameRows rs nm with
      | nil => rw [e] at hl0; cases hl0
      | cons _ _ => simp
    have ek : putF rs nm ld = if wsLess (wsOf l0.2) (wsOf (ld ++ xTab)) then (rs ++ [(nm, ld)], none)
      else if (wsOf l0.2).count = (wsOf (ld ++ xTab)).count ∧ (wsOf l0.2).b = (wsOf (ld ++ xTab)).b then (if (getRows rs (Txt.lower nm)).isSome then rs else rs ++ [(nm, ld)], some ((getRows rs (Txt.lower nm)).getD ld))
      else (offRows rs (Txt.lower nm) ++ [(nm, ld)], none) := by unfold putF; rw [hl0]
    rw [ek] at q
    have hli : (sameRows rs nm)[(sameRows rs nm).length - 1]? = some l0 := by rw [← List.getLast?_eq_getElem?]; exact hl0
    have hlm : l0 ∈ rs := (List.mem_filter.mp (List.mem_of_getElem? hli)).1
    have hlq := hlr l0 hlm
    repeat walk_at "mi"
    refine m_itemf (ds := ((sameRows rs nm).map (·.2)).map Da.str) ((sameRows rs nm).length - 1) hM (by walk_at "mem") (by decide) (by decide) (by rw [List.length_map, List.length_map]; exact sidxLast hpos) (e := .str l0.2) (by rw [List.getElem?_map, List.getElem?_map, hli]; rfl) fun v hM => ?_
    obtain ⟨lt, rfl⟩ := hM.isStr (.head _)
    repeat walk_at "mi"
    refine c_ws gd hM (hA'.le (by decide) (by decide)) (by omega) fun w₁ D₁ h t hw₁ hD₁ hM => ?_
    have ex : (Str.ofString "x\t").length = 2 := by rfl
    repeat walk_at "mi"
    have hlx : (ld ++ Str.ofString "x\t").length ≤ 1000 := by
      rw [len_app]
      omega
    refine c_ws gd hM (hA'.le (by decide) (by decide)) hlx fun w₂ D₂ h t hw₂ hD₂ hM => ?_
    repeat walk_at "mi"
    have exx : Str.ofString "x\t" = xTab := by rfl
    rw [exx] at hw₂
    refine m_newT hM (ds := [.adr w₁, .adr w₂]) (fun _ _ => .cons (.adr _) (.cons (.adr _) .nil)) (by walk_at "size") fun tp h t hM => ?_
    refine m_un2s hA'.h hM (.head _) fun v₁ v₂ h t hM => ?_
    have e1 := hM.isAdr (.head _)
    have e2 := hM.isAdr (v := v₂) (.tail _ (.head _))
    subst e1
    subst e2
    have hM := hM.sub (D' := D₂) fun f hf => .tail _ (.tail _ (.tail _ hf))
    have hup : ∀ f ∈ D, f ∈ D₂ := fun f hf' => hD₂ f (hD₁ f (by walk_at "up2"))
    have hw₁ := hw₁.mono hD₂
    have hx := hx.mono hup
    have hf := hup _ hf
    have C := ws_ok w.params
    clear hD₁ hD₂ es hl0 ek
    obtain ⟨dx, o, N, u, v, raw, h1, h2, h3, h4⟩ := id hw₁
    repeat walk_at "mi"
    refine m_gmeth gd C hM (.kept h1 h2 h3) (ws_f_less _) (by kernel_rfl) (by rfl) ?_
    repeat walk_at "mi"
    refine c_less gd hM (hA'.le (by decide) (by decide)) hw₁ hw₂ (hws l0 hlm) hwl fun h t hM => ?_
    repeat walk_at "mi"
    refine Both.of (fun e3 => ?_) fun e3 => ?_
    · rw [if_pos e3] at q
      repeat walk_at "mi"
      refine m_hm gd hM hx (by walk_at "up") (hd_f_addheader _) (t_252 _) (by rfl) ?_
      repeat walk_at "mi"
      refine c_addheader gd hM (hA'.le (by decide) (by decide)) hx hf (by omega) hr fun vs' h t hM => ?_
      show Then _ _ _ _ _ _ _ _
      repeat walk_at "mi"
      refine m_fin hR hM fun hM => q vs' .none _ _ (Mst.facts hM fun G g f hf' => ?_)
      rcases List.mem_cons.mp hf' with rfl | hf'
      · exact .one .none
      rcases List.mem_cons.mp hf' with rfl | hf'
      · exact g _ (.head _)
      · exact g f (.tail _ (hup f hf'))
    · rw [if_neg (by rw [e3]; decide)] at q
      repeat walk_at "mi"
      refine m_gmeth gd C hM (.kept h1 h2 h3) (ws_f_eq _) (by kernel_rfl) (by rfl) ?_
      repeat walk_at "mi"
      refine c_equal gd hM (hA'.le (by decide) (by decide)) hw₁ hw₂ fun h t hM => ?_
      repeat walk_at "mi"
      refine Both.cond (fun e4 => ?_) fun e4 => ?_
      · rw [if_pos e4] at q
        repeat walk_at "mi"
        refine m_hm gd hM hx (by walk_at "up") (hd_f_setdefault _) (t_245 _) (by rfl) ?_
        repeat walk_at "mi"
        refine c_setdefault gd hM (hA'.le (by decide) (by decide)) hx hf hrs hr (by omega) fun vs' v h t hM => ?_
        repeat walk_at "mi"
        refine m_fin hR hM fun hM => q vs' v _ _ (Mst.sub hM fun f hf' => ?_)
        rcases List.mem_cons.mp hf' with rfl | hf'
        · exact .head _
        rcases List.mem_cons.mp hf' with rfl | hf'
        · exact .tail _ (.head _)
        · exact .tail _ (.tail _ (hup f hf'))
      · rw [if_neg e4] at q
        repeat walk_at "mi"
        obtain ⟨tx, fl, hi, rfl⟩ := hx.inst
        refine m_isetItem gd hM (hi _) (hd_noseq _) (hd_f_setitem _) (t_170 _) ?_
        refine c_setitem gd hM (hA'.le (by decide) (by decide)) hx hf (by omega) hrl hr fun vs' h t hM => ?_
        repeat walk_at "mi"
        refine m_fin hR hM fun hM => q vs' .none _ _ (Mst.facts hM fun G g f hf' => ?_)
        rcases List.mem_cons.mp hf' with rfl | hf'
        · exact .one .none
        rcases List.mem_cons.mp hf' with rfl | hf'
        · exact g _ (.head _)
        · exact g f (.tail _ (hup f hf'))
end
set_option hygiene false in
local macro_rules | `(tactic| walk_at "up2") => `(tactic| repeat (first | exact hf' | apply List.Mem.tail))
/-! ## _law_table_is_right -/
theorem eqv_fst (f : Row → Str) (rs : List Row) : PyData.eqv (Da.lst (rs.map fun r => Da.str (f r))).py (Da.lst (rs.map fun r => Da.str (f r))).py = true := by
  rw [Da.py, PyData.eqv]
  induction rs with
  | nil => rfl
  | cons r rs ih => rw [List.map_cons, Da.pys, PyData.eqvAll, ih, Da.py, PyData.eqv, beq_self_eq_true]; rfl
theorem cm_fst {f : Row → Str} {rs : List Row} (k : ∀ r ∈ rs, PyData.strOk (f r) = true) : Cm (.lst (rs.map fun r => Da.str (f r))) := by
  have := cm_strs (xs := rs.map f) fun x hx => by
    obtain ⟨r, hr, rfl⟩ := List.mem_map.mp hx
    exact k r hr
  rwa [List.map_map] at this
theorem cm_opt {o : Option Str} (k : ∀ x, o = some x → PyData.strOk x = true) : Cm (optDa o .none) := by
  cases o with
  | none => exact ⟨rfl, rfl, by decide⟩
  | some x =>
    refine ⟨rfl, ?_, ?_⟩
    · show (Da.str x).py.canLay0 = true
      rw [Da.py, PyData.canLay0]; exact k x rfl
    · show (Da.str x).py.depth ≤ 3
      rw [Da.py]; exact Nat.zero_le _
theorem eqv_opt (o : Option Str) : PyData.eqv (optDa o .none).py (optDa o .none).py = true := by
  cases o with
  | none => rfl
  | some x =>
    show PyData.eqv (Da.str x).py (Da.str x).py = true
    rw [Da.py, PyData.eqv, beq_self_eq_true]
def fourDs : List Da := [.tup [.str (sx "a"), .str (sx "a")], .tup [.str (sx "B"), .str (sx "b")], .tup [.str (sx "A"), .str (sx "a")], .tup [.str (sx "c"), .str (sx "c")]]
theorem four_two : ∀ (i : Nat) (d : Da), fourDs[i]? = some d → ∃ d₁ d₂, d = Da.tup [d₁, d₂]
  | 0, _, h => by cases h; exact ⟨_, _, rfl⟩
  | 1, _, h => by cases h; exact ⟨_, _, rfl⟩
  | 2, _, h => by cases h; exact ⟨_, _, rfl⟩
  | 3, _, h => by cases h; exact ⟨_, _, rfl⟩
  | _ + 4, _, h => by cases h
theorem nameOk_of {x : Str} (h : (decide (x.length ≤ 1000) && findsNone nameCode x && findsNone nameCode (Txt.lower x)) = true) : NameOk x := by
  rw [Bool.and_eq_true, Bool.and_eq_true, decide_eq_true_eq] at h
  exact ⟨h.1.1, h.1.2, h.2⟩
theorem four_ok : ∀ (i : Nat) (d₁ d₂ : Da), fourDs[i]? = some (.tup [d₁, d₂]) → ∃ nm low, d₁ = .str nm ∧ d₂ = .str low ∧ NameOk nm ∧ Txt.lower nm = low
  | 0, _, _, h => by cases h; exact ⟨_, _, rfl, rfl, nameOk_of (by decide +kernel), by decide +kernel⟩
  | 1, _, _, h => by cases h; exact ⟨_, _, rfl, rfl, nameOk_of (by decide +kernel), by decide +kernel⟩
  | 2, _, _, h => by cases h; exact ⟨_, _, rfl, rfl, nameOk_of (by decide +kernel), by decide +kernel⟩
  | 3, _, _, h => by cases h; exact ⟨_, _, rfl, rfl, nameOk_of (by decide +kernel), by decide +kernel⟩
  | _ + 4, _, _, h => by cases h
theorem Inst.mono {W : Own} {D D' : Facts} {x C dx : Addr} {fl : List (Str × Value)} (i : Inst W D x C dx fl) (k : ∀ f ∈ D, f ∈ D') : Inst W D' x C dx fl := by
  cases i with
  | own a b => exact .own (k _ a) b
  | kept a b c => exact .kept (k _ a) (k _ b) c
/-- what a row's name may be -/
def NameIn (r : Row) : Prop := Txt.lower r.1 = sx "a" ∨ Txt.lower r.1 = sx "b"
theorem fn_182 (P : Params) : fnIn (KF P) 182 = true := by kernel_rfl
section
variable {prog : Program} {w : World} {A : Around} {E : Value → Shared → Prop} {H0 : Heap} {B G₀ : Gr} {L : Addr} {m : Loc} {W : Own} {D : Facts} {h : Heap} {g : Array GenState} {d : Drawn} {t : Nat} {os : OsState}
theorem c_right {x lst a : Addr} {vs : Array Value} {rs : List Row} {Q : Value → Shared → Prop} (gd : Gd (KF w.params) H0) (hM : Mst H0 B G₀ L m ((lst, .lst vs) :: W) D h) (hA : Rm A 18 80) (hx : TabAt D x lst)
    (hf : (vs.toList, rs.map rowDa) ∈ D) (ha : ([.ref a], [.lst (rs.map rowDa)]) ∈ D) (hlen : rs.length ≤ 900) (hrs : ∀ r ∈ rs, RowOk r) (hrk : ∀ r ∈ rs, Rk r) (hnm : ∀ r ∈ rs, NameIn r)
    (q : ∀ h' t', Mst H0 B G₀ L m ((lst, .lst vs) :: W) D h' → Q (.bool true) ⟨h', g, d, t', os⟩) :
    wpAny (model prog w) A (call (.ref 290) [.ref x, .ref a]) Q E ⟨h, g, d, t, os⟩ := by
  have hM' : Mst H0 B G₀ L m ([] ++ ((lst, .lst vs) :: W)) D h := hM
  refine m_defC1 (binds := [(sx "table", .ref x), (sx "rows", .ref a)]) (lbinds := [(sx "table", .ref x), (sx "rows", .ref a)]) (cn := sx "low") (cv := none) gd hM' (hA.le (d' := 17 + 1) (u' := 74 + 3) (by decide) (by decide)) (by rfl) (by rfl) (by rfl) (by rfl) (by intro _; rfl) (by rfl) (by walk_at "kn") rfl ?_
  clear hM hM'
  intro env A' L' c B' G' h t R E' hE hA' hM hR _
  have hM := hM.swap2
  have hrl : ∀ r ∈ rs, r.1.length ≤ 1000 := fun r h => (hrs r h).name.len
  obtain ⟨rvs, o, hlo, hvs, hM⟩ := hM.open ha
  rw [List.length_map] at hvs
  have hD : ∀ f ∈ D, f ∈ ((rvs.toList, rs.map rowDa) :: ([Value.ref a], [Da.obj o]) :: D) := fun f hf => .tail _ (.tail _ hf)
  have hx0 := hx
  have hf0 := hf
  have hx := hx.mono hD
  have hf := hD _ hf
  have ha1 := hD _ ha
  have hr1 : (rvs.toList, rs.map rowDa) ∈ ((rvs.toList, rs.map rowDa) :: ([Value.ref a], [Da.obj o]) :: D) := .head _
  have ho1 : ([Value.ref a], [Da.obj o]) ∈ ((rvs.toList, rs.map rowDa) :: ([Value.ref a], [Da.obj o]) :: D) := .tail _ (.head _)
  generalize hD1 : ((rvs.toList, rs.map rowDa) :: ([Value.ref a], [Da.obj o]) :: D) = D1 at *
  have lin : ∀ {W : Own} {D' : Facts}, (∀ f ∈ D1, f ∈ D') → LstIn W D' a rvs := fun k => .kept (k _ ho1) hlo
  have hsz : vs.size = rs.length := by simpa using hM.has hf
  obtain ⟨tx, fl, hi, efl⟩ := hx.inst
  have hno : getRows rs (Txt.lower (sx "c")) = none := by
    unfold getRows
    have e : Txt.lower (sx "c") = sx "c" := by decide +kernel
    rw [e, List.find?_eq_none.mpr fun r hr => ?_]
    · rfl
    · rw [beq_iff_eq]
      intro e2
      rcases hnm r hr with e3 | e3 <;> (rw [e3] at e2; exact absurd e2 (by decide))
  have ncok : NameOk (sx "c") := ⟨by decide, by unfold Fine; decide +kernel, by unfold Fine; decide +kernel⟩
  repeat walk_at "mi"
  refine m_hm gd hM hx (by walk_at "up") (hd_f_keys _) (t_207 _) (by rfl) ?_
  repeat walk_at "mi"
  refine c_keys gd hM (hA'.le (by decide) (by decide)) hx hf (by omega) fun k₁ h t hM => ?_
  refine m_comp (fun _ => true) (fun r => .str r.1) hM (.tail _ hr1) (closure_none (by rfl)) fun p F hpf => ?_
  repeat walk_at "mi"
  refine m_compgo hpf hA'.h hM (hM.lst (lin (by walk_at "up"))) (.tail _ hr1) (by omega) ?_ ?_ ?_
  · intro C₁ r v h₃ g₃ d₃ t os₃ m₃ E' hr hv hN hm kk
    exact r_if0 ⟨rfl, _, rfl⟩
  · intro C₁ r v h₃ g₃ d₃ t os₃ m₃ E' hr ht hv hN hm kk
    repeat walk_at "mi"
    refine r_ld (compEnvIs hE (by rfl)) hN hm (by rfl) ?_
    repeat walk_at "mi"
    refine r_row0 hv fun tk => ?_
    exact ⟨fun G _ => .str _ _, _, rfl⟩
  have eft : rs.filter (fun _ => true) = rs := List.filter_eq_self.mpr fun _ _ => rfl
  intro k₂ ys h t hM
  rw [eft] at hM
  have hM := hM.freezeL (ds := rs.map fun r => Da.str r.1) fun G g => g _ (.head _)
  refine m_ned (hA'.le (d' := 0) (by decide) (by decide)) hM (by walk_at "mem") (.head _) (cm_fst fun r hr => (hrk r hr).1) (cm_fst fun r hr => (hrk r hr).1) ?_
  rw [eqv_fst (fun r => r.1)]
  have hM := hM.sub (D' := D1) (by walk_at "up")
  clear hpf
  repeat walk_at "mi"
  refine m_hm gd hM hx (by walk_at "up") (hd_f_values _) (t_212 _) (by rfl) ?_
  repeat walk_at "mi"
  refine c_values gd hM (hA'.le (by decide) (by decide)) hx hf (by omega) fun k₁ h t hM => ?_
  refine m_comp (fun _ => true) (fun r => .str r.2) hM (.tail _ hr1) (closure_none (by rfl)) fun p F hpf => ?_
  repeat walk_at "mi"
  refine m_compgo hpf hA'.h hM (hM.lst (lin (by walk_at "up"))) (.tail _ hr1) (by omega) ?_ ?_ ?_
  · intro C₁ r v h₃ g₃ d₃ t os₃ m₃ E' hr hv hN hm kk
    exact r_if0 ⟨rfl, _, rfl⟩
  · intro C₁ r v h₃ g₃ d₃ t os₃ m₃ E' hr ht hv hN hm kk
    repeat walk_at "mi"
    refine r_ld (compEnvIs hE (by rfl)) hN hm (by rfl) ?_
    repeat walk_at "mi"
    refine r_row1 hv fun tk => ?_
    exact ⟨fun G _ => .str _ _, _, rfl⟩
  intro k₂ ys h t hM
  rw [eft] at hM
  have hM := hM.freezeL (ds := rs.map fun r => Da.str r.2) fun G g => g _ (.head _)
  refine m_ned (hA'.le (d' := 0) (by decide) (by decide)) hM (by walk_at "mem") (.head _) (cm_fst fun r hr => (hrk r hr).2) (cm_fst fun r hr => (hrk r hr).2) ?_
  rw [eqv_fst (fun r => r.2)]
  have hM := hM.sub (D' := D1) (by walk_at "up")
  clear hpf
  repeat walk_at "mi"
  refine m_ilen gd hM (hi _) (hd_f_len _) (t_163 _) ?_
  refine c_len gd hM ((hA'.le (d' := 5) (u' := 21) (by decide) (by decide)).in1) hx (by omega) fun u h t hM => ?_
  refine ⟨_, _, rfl, by omega, ?_⟩
  repeat walk_at "mi"
  refine m_lenf hM ha1 (by rw [List.length_map]; walk_at "size") fun u => ?_
  rw [List.length_map]
  repeat walk_at "mi"
  have e1 : (((vs.size : Nat) : Int) != ((rs.length : Nat) : Int)) = false := by rw [hsz]; simp
  rw [e1]
  repeat walk_at "mi"
  refine m_hm gd hM hx (by walk_at "up") (hd_f_get _) (t_202 _) (by rfl) ?_
  repeat walk_at "mi"
  refine c_get gd (hM.with (f := ([.str (sx "none") _], [.str (sx "none")])) fun _ _ => .one (.str _ _)) (hA'.le (by decide) (by decide)) (hx.mono (by walk_at "up")) (.tail _ hf) hrs ncok (.inr rfl) (.head _) fun v h t hM => ?_
  rw [hno] at hM
  obtain ⟨uv, rfl⟩ := hM.isStr (x := sx "none") (.head _)
  have hM := hM.sub (D' := D1) (by walk_at "up")
  repeat walk_at "mi"
  have e2 : ((sx "none" : Str) != Str.ofString "none") = false := by rw [bne_self_eq_false]
  rw [e2]
  repeat walk_at "mi"
  refine m_isubs gd hM (hi _) (hd_f_getitem _) (fn_182 _) (t_182 _) ?_ (by rfl)
  refine c_getitem gd hM ((hA'.le (d' := 12) (u' := 51) (by decide) (by decide)).in1) hx hf hrs ncok fun v h t hM => ?_
  rw [hno] at hM
  have e3 := hM.isNone (.head _)
  subst e3
  have hM := hM.sub (D' := D1) (by walk_at "up")
  walk_at "mi"
  walk_at "mi"
  rw [show ((!(Value.none == Value.none)) : Bool) = false from rfl]
  repeat walk_at "mi"
  refine m_newT hM (ds := [.str (sx "a"), .str (sx "a")]) (by walk_at "fact") (by walk_at "size") fun T₁ h t hM => ?_
  repeat walk_at "mi"
  refine m_newT hM (ds := [.str (sx "B"), .str (sx "b")]) (by walk_at "fact") (by walk_at "size") fun T₂ h t hM => ?_
  repeat walk_at "mi"
  refine m_newT hM (ds := [.str (sx "A"), .str (sx "a")]) (by walk_at "fact") (by walk_at "size") fun T₃ h t hM => ?_
  repeat walk_at "mi"
  refine m_newT hM (ds := [.str (sx "c"), .str (sx "c")]) (by walk_at "fact") (by walk_at "size") fun T₄ h t hM => ?_
  repeat walk_at "mi"
  refine m_newT hM (ds := fourDs) (by unfold fourDs; walk_at "fact") (by walk_at "size") fun T h t hM => ?_
  obtain ⟨_, -, hTW, hTL, -, -⟩ := hM.titems (.head _)
  obtain ⟨tvs, ot, hto, htz, hM⟩ := hM.topen (.head _)
  have hT := hM.ltup (.tail _ (.head _)) hto
  have hM := hM.facts (D' := (tvs.toList, fourDs) :: D1) fun G g f hf' => by
    rcases List.mem_cons.mp hf' with rfl | hf'
    · exact g _ (.head _)
    · exact g f (by walk_at "up2")
  refine n_tupc hA'.h hE (by rfl) (by rfl) (by rfl) hM hT hTL hTW htz four_two
    (fun i l W' D' => l = [(sx "table", .ref x), (sx "rows", .ref a)] ∧ (∃ cv, W' = (lst, .lst vs) :: (c, .cell cv) :: W) ∧ D' = (tvs.toList, fourDs) :: D1)
    (fun i l W' D' j => by obtain ⟨-, -, rfl⟩ := j; exact .head _) (fun cv => (lst, .lst vs) :: (c, .cell cv) :: W) (fun cv v => .tail .head) (fun i l W' D' j => by obtain ⟨-, h, -⟩ := j; exact h) ⟨rfl, ⟨_, rfl⟩, rfl⟩ ?_ ?_
  · rintro i d₁ d₂ v₁ v₂ l₁ W' D' B₁ G₁ h t E' T hd ⟨rfl, -, rfl⟩ hM back hT
    obtain ⟨nm, low, rfl, rfl, hnk, hlow⟩ := four_ok i d₁ d₂ hd
    obtain ⟨u₁, rfl⟩ := hM.isStr (.head _)
    obtain ⟨u₂, rfl⟩ := hM.isStr (v := v₂) (.tail _ (.head _))
    have hM := hM.sub (D' := (tvs.toList, fourDs) :: D1) fun f hf => .tail _ (.tail _ hf)
    repeat walk_at "mi"
    refine m_asgcomp (fun r => Txt.lower r.1 == low) (fun r => .str r.2) hE hM (.tail _ hr1) (closure_one hE (by rfl) (by rfl)) (by rfl) (by rfl) (by rfl) fun p F hpf => ?_
    repeat walk_at "mi"
    refine m_asgcompgo hpf hA'.h hE hM (hM.lst (lin (by walk_at "up"))) (.tail _ hr1) (by omega) ?_ ?_ ?_
    · intro C₁ r v h₃ g₃ d₃ t os₃ m₃ E' hr hv hN hm kk
      refine r_if1 ?_
      repeat walk_at "mi"
      refine r_ld (compEnvIs hE (by rfl)) hN hm (by rfl) ?_
      repeat walk_at "mi"
      refine r_row0 hv fun tk => ?_
      have hr1 := hrl r hr
      repeat walk_at "mi"
      refine r_cell (compEnvIs hE (by rfl)) (by rfl) (by rfl) ((hM.own _ (.tail _ (.head _))).1.at fun o e => kk _ o e) ?_
      repeat walk_at "mi"
      exact ⟨rfl, _, rfl⟩
    · intro C₁ r v h₃ g₃ d₃ t os₃ m₃ E' hr ht hv hN hm kk
      repeat walk_at "mi"
      refine r_ld (compEnvIs hE (by rfl)) hN hm (by rfl) ?_
      repeat walk_at "mi"
      refine r_row1 hv fun tk => ?_
      exact ⟨fun G _ => .str _ _, _, rfl⟩
    · intro lr ys h t hM
      obtain ⟨F, hF⟩ : ∃ F, F = rs.filter fun r => Txt.lower r.1 == low := ⟨_, rfl⟩
      rw [← hF] at hM
      have hFl : F.length ≤ 900 := by rw [hF]; exact Nat.le_trans (List.length_filter_le _ _) hlen
      have hyz : ys.size ≤ 900 := by
        have := hM.has (.head _)
        rw [Array.length_toList, List.length_map] at this
        omega
      have hFk : ∀ r ∈ F, PyData.strOk r.2 = true := fun r hr => (hrk r (by rw [hF] at hr; exact (List.mem_filter.mp hr).1)).2
      have hget : getRows rs (Txt.lower nm) = F.head?.map (·.2) := by unfold getRows; rw [hlow, hF, List.head?_filter]
      have hall : (allRows rs (Txt.lower nm)).map Da.str = F.map fun r => Da.str r.2 := by unfold allRows; rw [hlow, List.map_map, hF]; rfl
      have hgk : ∀ z, getRows rs (Txt.lower nm) = some z → PyData.strOk z = true := fun z hz => by
        rw [hget] at hz
        obtain ⟨r, hr, rfl⟩ := Option.map_eq_some_iff.mp hz
        exact hFk r (List.mem_of_mem_head? hr)
      clear hpf
      have hM := hM.freezeL (ds := F.map fun r => Da.str r.2) fun G g => g _ (.head _)
      obtain ⟨lvs, lo', hlo', hlz, hM⟩ := hM.open (.head _)
      rw [List.length_map] at hlz
      repeat walk_at "mi"
      refine m_newW hM (by walk_at "size") fun z₁ h t hM => ?_
      refine m_addl hM (.kept (by walk_at "mem") hlo') (.own (.head _)) (by simp; walk_at "size") fun z₂ h t hM => ?_
      have hM := hM.with (f := ((lvs.toList ++ ([Value.none].toArray).toList).toArray.toList, (F.map fun r => Da.str r.2) ++ [Da.none])) fun G g => by
        rw [List.toList_toArray]
        exact DaAll.append (g (lvs.toList, F.map fun r => Da.str r.2) (by walk_at "mem")) (.one .none)
      repeat walk_at "mi"
      refine m_itemx 0 hM (.own (.head _)) (.head _) (by decide) (by decide) (sidx (n := 0) (by simp)) (e := optDa (getRows rs (Txt.lower nm)) .none) (by rw [hget]; cases F <;> rfl) fun v₁ hM => ?_
      have hM := (hM.pick (W' := (lst, .lst vs) :: (c, .cell (some (.str low u₂))) :: W) (by walk_at "pick")).facts (D' := ([v₁], [optDa (getRows rs (Txt.lower nm)) .none]) :: ([.ref lr], [.lst (F.map fun r => Da.str r.2)]) :: (tvs.toList, fourDs) :: D1) fun G g f hf' => by
        rcases List.mem_cons.mp hf' with rfl | hf'
        · exact g _ (by walk_at "mem")
        rcases List.mem_cons.mp hf' with rfl | hf'
        · exact g _ (by walk_at "mem")
        rcases List.mem_cons.mp hf' with rfl | hf'
        · exact g _ (by walk_at "mem")
        · exact g f (by walk_at "up2")
      repeat walk_at "mi"
      refine m_hm gd hM hx (by walk_at "up") (hd_f_getall _) (t_194 _) (by rfl) ?_
      repeat walk_at "mi"
      refine c_getall gd hM (hA'.le (by decide) (by decide)) (hx.mono (by walk_at "up")) (.tail _ (.tail _ (.tail _ hf))) (by omega) hrl hnk.len hnk.low fun k₁ h t hM => ?_
      rw [hall] at hM
      repeat walk_at "mi"
      refine m_ned (hA'.le (d' := 0) (by decide) (by decide)) hM (.head _) (by walk_at "mem") (cm_fst hFk) (cm_fst hFk) ?_
      rw [eqv_fst (fun r => r.2)]
      repeat walk_at "mi"
      refine m_hm gd hM hx (by walk_at "up") (hd_f_get _) (t_202 _) (by rfl) ?_
      repeat walk_at "mi"
      refine c_get gd (hM.with (f := ([.none], [.none])) fun _ _ => .one .none) (hA'.le (by decide) (by decide)) (hx.mono (by walk_at "up")) (.tail _ (.tail _ (.tail _ (.tail _ (.tail _ hf))))) hrs hnk (.inl ⟨rfl, rfl⟩) (.head _) fun v₂ h t hM => ?_
      repeat walk_at "mi"
      refine m_ned (hA'.le (d' := 0) (by decide) (by decide)) hM (.head _) (by walk_at "mem") (cm_opt hgk) (cm_opt hgk) ?_
      rw [eqv_opt]
      repeat walk_at "mi"
      refine m_isubs gd hM (hi _ |>.mono (by walk_at "up")) (hd_f_getitem _) (fn_182 _) (t_182 _) ?_ (by rfl)
      refine c_getitem gd hM ((hA'.le (d' := 12) (u' := 51) (by decide) (by decide)).in1) (hx.mono (by walk_at "up")) (.tail _ (.tail _ (.tail _ (.tail _ (.tail _ (.tail _ hf)))))) hrs hnk fun v₃ h t hM => ?_
      repeat walk_at "mi"
      refine m_ned (hA'.le (d' := 0) (by decide) (by decide)) hM (.head _) (v := v₃) (u := v₁) (d₂ := optDa (getRows rs (Txt.lower nm)) .none) (.tail _ (.tail _ (.tail _ (.tail _ (.head _))))) (cm_opt hgk) (cm_opt hgk) ?_
      rw [eqv_opt]
      repeat walk_at "mi"
      refine m_iin gd hM (hi _ |>.mono (by walk_at "up")) (hd_f_contains _) (t_189 _) ?_
      refine c_contains gd hM (hA'.le (by decide) (by decide)) (hx.mono (by walk_at "up")) (.tail _ (.tail _ (.tail _ (.tail _ (.tail _ (.tail _ (.tail _ hf))))))) hrs hnk fun h t hM => ?_
      refine ⟨_, rfl, ?_⟩
      repeat walk_at "mi"
      refine m_newL hM (ds := []) (by walk_at "fact") (by walk_at "size") fun e₀ h t hM => ?_
      refine m_ned (hA'.le (d' := 0) (by decide) (by decide)) hM (d₁ := .lst (F.map fun r => Da.str r.2)) (by walk_at "mem") (.head _) (cm_fst (f := fun r => r.2) hFk) cm_nil ?_
      rw [eqv_nil]
      repeat walk_at "mi"
      have eab : (getRows rs (Txt.lower nm)).isSome = !(F.map fun r => Da.str r.2).isEmpty := by rw [hget]; cases F <;> rfl
      rw [eab, beq_self_eq_true]
      repeat walk_at "mi"
      refine m_tuf hT hM (l' := [(sx "table", .ref x), (sx "rows", .ref a)]) (D'' := (tvs.toList, fourDs) :: D1) ⟨rfl, ⟨_, rfl⟩, rfl⟩ (by walk_at "kn") fun G g f hf' => ?_
      rcases List.mem_cons.mp hf' with rfl | hf'
      · exact g _ (by walk_at "mem")
      · exact g f (by walk_at "up2")
  · rintro l₁ W' D' h t ⟨rfl, ⟨cv, rfl⟩, rfl⟩ hM
    have hM := hM.sub (D' := D1) fun f hf => .tail _ hf
    repeat walk_at "mi"
    refine m_hm gd hM hx (by walk_at "up") (hd_f_items _) (t_219 _) (by rfl) ?_
    repeat walk_at "mi"
    refine c_items gd hM (hA'.le (by decide) (by decide)) hx (by omega) fun cp h t hM => ?_
    repeat walk_at "mi"
    refine c_hdL gd hM (hA'.le (by decide) (by decide)) hf (fun r hr => ⟨(hrs r hr).name.fine, (hrs r hr).lead⟩) fun y D2 h t hy hD2 hM => ?_
    repeat walk_at "mi"
    refine m_del ?_
    repeat walk_at "mi"
    obtain ⟨ty, fy, hiy, efy⟩ := hy.inst
    refine m_idelItem gd hM (hiy _) (hd_noseq _) (hd_f_delitem _) (t_175 _) ?_
    have hlowA : Txt.lower (Str.ofString "A") = sx "a" := by decide +kernel
    refine c_delitem gd hM (hA'.le (by decide) (by decide)) hy (hD2 _ hf) (by omega) hrl (by decide) (by rw [hlowA]; unfold Fine; decide +kernel) fun ws h t hM => ?_
    rw [hlowA] at hM
    have hwz : ws.size ≤ 900 := by
      have := hM.has (.head _)
      rw [Array.length_toList, List.length_map] at this
      rw [this]
      exact Nat.le_trans (List.length_filter_le _ _) hlen
    repeat walk_at "mi"
    refine m_hm gd hM hy (by walk_at "up") (hd_f_items _) (t_219 _) (by rfl) ?_
    repeat walk_at "mi"
    refine c_items gd hM (hA'.le (by decide) (by decide)) (hy.mono (by walk_at "up")) (by omega) fun ci h t hM => ?_
    have hM := hM.freezeL (ds := (offRows rs (sx "a")).map rowDa) fun G g => g _ (.head _)
    refine m_comp (fun r => Txt.lower r.1 != sx "a") rowDa hM (.tail _ (.tail _ (hD2 _ hr1))) (closure_none (by rfl)) fun p F hpf => ?_
    repeat walk_at "mi"
    refine m_compgo hpf hA'.h hM (hM.lst (lin fun f hf' => .tail _ (.tail _ (hD2 f hf')))) (.tail _ (.tail _ (hD2 _ hr1))) (by omega) ?_ ?_ ?_
    · intro C₁ r v h₃ g₃ d₃ t os₃ m₃ E' hr hv hN hm kk
      refine r_if1 ?_
      repeat walk_at "mi"
      refine r_ld (compEnvIs hE (by rfl)) hN hm (by rfl) ?_
      repeat walk_at "mi"
      refine r_row0 hv fun tk => ?_
      have hr1 := hrl r hr
      repeat walk_at "mi"
      exact ⟨rfl, _, rfl⟩
    · intro C₁ r v h₃ g₃ d₃ t os₃ m₃ E' hr ht hv hN hm kk
      refine r_ld (compEnvIs hE (by rfl)) hN hm (by rfl) ?_
      exact ⟨fun G h => h, _, rfl⟩
    · intro k₂ ys h t hM
      have hM := hM.freezeL (ds := (offRows rs (sx "a")).map rowDa) fun G g => g _ (.head _)
      have hok : ∀ r ∈ offRows rs (sx "a"), Rk r := fun r hr => hrk r (List.mem_filter.mp hr).1
      refine m_eqd (hA'.le (d' := 0) (by decide) (by decide)) hM (by walk_at "mem") (.head _) (cm_rows hok) (cm_rows hok) ?_
      rw [eqv_rows, decide_eq_true rfl]
      repeat walk_at "mi"
      have hM := (hM.pick (W' := (lst, .lst vs) :: (c, .cell cv) :: W) (by walk_at "pick")).sub (D' := D1) fun f hf' => .tail _ (.tail _ (.tail _ (.tail _ (hD2 f hf'))))
      refine m_hm gd hM hx (by walk_at "up") (hd_f_items _) (t_219 _) (by rfl) ?_
      repeat walk_at "mi"
      refine c_items gd hM (hA'.le (by decide) (by decide)) hx (by omega) fun ti h t hM => ?_
      have hM := hM.freezeL (ds := rs.map rowDa) fun G g => g _ hf
      repeat walk_at "mi"
      refine m_eqd (hA'.le (d' := 0) (by decide) (by decide)) hM (.head _) (.tail _ ha1) (cm_rows hrk) (cm_rows hrk) ?_
      rw [eqv_rows, decide_eq_true rfl]
      repeat walk_at "mi"
      refine m_fin hR (hM.pick (W' := (lst, .lst vs) :: W) (by walk_at "pick")) fun hM => q _ _ (Mst.sub hM fun f hf' => .tail _ (hD f hf'))
end
set_option hygiene false in
local macro_rules | `(tactic| walk_at "up2") => `(tactic| repeat (first | exact hf' | apply List.Mem.tail))
/-! ## _law_found -/
/-- a text that _ellipsis_match splits so -/
structure EmOk (want : Str) (ws : List Str) : Prop where
  hc : Txt.contains want dots = true
  h1 : (decide (want.length < 3) || decide (Builtin.Str.strKind want < Builtin.Str.strKind dots)) = false
  hf : (Builtin.Str.occurrences want dots 0 want.length (want.length + 1)).isEmpty = false
  hp : Builtin.Str.partsBetween want (Builtin.Str.occurrences want dots 0 want.length (want.length + 1)) 3 = ws
  hws : 2 ≤ ws.length ∧ ws.length ≤ 100
  hlw : want.length ≤ 100000
  hlp : ∀ p ∈ ws, p.length ≤ 100000
def valS (r : Row) : Str := (sx ": " ++ r.2) ++ sx "\r\n"
def lineS (r : Row) : Str := ((r.1 ++ sx ": ") ++ r.2) ++ sx "\r\n"
def want1 (r k : Row) : Str := (((sx "..." ++ valS r) ++ sx "......") ++ lineS k) ++ sx "..."
def want2 (r k : Row) : Str := ((lineS r ++ sx "...") ++ lineS k) ++ sx "\r\n"
def aboveAt (rs : List Row) (r k : Row) (i : Nat) : Bool := (match rs[i]? with | some z => decide (z.2 = r.2) | none => false) && (rs.drop (i + 1)).contains k
def aboveF (rs : List Row) (r k : Row) : Bool := (List.range rs.length).any (aboveAt rs r k)
def bothF (rs : List Row) (r k : Row) : Bool := decide (rs.length > 1) && (decide (rs.head? = some r) && decide (rs.getLast? = some k))
theorem DaAll.drop {G : Gr} : ∀ {vs : List Value} {ds : List Da}, DaAll G vs ds → ∀ n, DaAll G (vs.drop n) (ds.drop n)
  | _, _, h, 0 => h
  | _, _, .nil, _ + 1 => .nil
  | _, _, .cons _ r, n + 1 => DaAll.drop r n
theorem any_snoc (p : Nat → Bool) (i : Nat) : (List.range (i + 1)).any p = ((List.range i).any p || p i) := by
  rw [List.range_succ, List.any_append, List.any_cons, List.any_nil, Bool.or_false]
section
variable {prog : Program} {w : World} {A : Around} {E : Value → Shared → Prop} {H0 : Heap} {B G₀ : Gr} {L : Addr} {m : Loc} {W : Own} {D : Facts} {h : Heap} {g : Array GenState} {d : Drawn} {t : Nat} {os : OsState}
theorem m_range1 {b : Int} {v : Tok} {Q : Value → Shared → Prop} (hM : Mst H0 B G₀ L m W D h)
    (q : ∀ r h' t' t₁ t₂ t₃, Mst H0 B G₀ L m W D h' → IsRange h' r 0 b 1 t₁ t₂ t₃ → Q (.ref r) ⟨h', g, d, t', os⟩) : wpAny (model prog w) A (call (.type "range") [.int b v]) Q E ⟨h, g, d, t, os⟩ :=
  call_range_1 (q _ _ _ _ _ _ ((hM.push _ rfl).sub fun f hf => .tail _ hf) (IsRange.new ..))
end
section
variable {prog : Program} {w : World} {A : Around} {E : Value → Shared → Prop} {H0 : Heap} {B G₀ : Gr} {L : Addr} {m : Loc} {W : Own} {D : Facts} {h : Heap} {g : Array GenState} {d : Drawn} {t : Nat} {os : OsState}
theorem c_found {a o₁ o₂ : Addr} {rs ws₁ ws₂} {txt : Str} {tt : Tok} {r k : Row} {Q : Value → Shared → Prop} (gd : Gd (KF w.params) H0) (hM : Mst H0 B G₀ L m W D h) (hA : Rm A 14 60)
    (ha : ([.ref a], [.lst (rs.map rowDa)]) ∈ D) (h₁ : ([.ref o₁], [rowDa r]) ∈ D) (h₂ : ([.ref o₂], [rowDa k]) ∈ D) (hlen : rs.length ≤ 900) (hrk : ∀ r ∈ rs, Rk r) (hr : Rk r) (hk : Rk k)
    (hl : r.1.length ≤ 900 ∧ r.2.length ≤ 900 ∧ k.1.length ≤ 900 ∧ k.2.length ≤ 900) (htx : txt.length ≤ 100000) (e₁ : EmOk (want1 r k) ws₁) (e₂ : EmOk (want2 r k) ws₂) (hv₁ : emW ws₁ txt = aboveF rs r k) (hv₂ : emW ws₂ txt = bothF rs r k)
    (q : ∀ h' t', Mst H0 B G₀ L m W D h' → Q (.bool true) ⟨h', g, d, t', os⟩) :
    wpAny (model prog w) A (call (.ref 297) [.str txt tt, .ref a, .ref o₁, .ref o₂]) Q E ⟨h, g, d, t, os⟩ := by
  have hM' : Mst H0 B G₀ L m (W ++ []) D h := hM.app0
  refine m_def (binds := [(sx "text", .str txt tt), (sx "rows", .ref a), (sx "one", .ref o₁), (sx "other", .ref o₂)]) gd hM' (hA.le (d' := 13 + 1) (u' := 54 + 3) (by decide) (by decide)) (by rfl) (by rfl) (BindsTo.of_eq (by rfl)) (by rfl) ?_
  clear hM hM'
  intro env A' L' B' G' h t R E' hE hA' hM hR _
  obtain ⟨hl1, hl2, hl3, hl4⟩ := hl
  have x1 : (Str.ofString ": ").length = 2 := by rfl
  have x2 : (Str.ofString "\r\n").length = 2 := by rfl
  have x3 : (Str.ofString "...").length = 3 := by rfl
  have x4 : (Str.ofString "......").length = 6 := by rfl
  obtain ⟨rvs, o, hlo, hvs, hM⟩ := hM.open ha
  rw [List.length_map] at hvs
  have hD : ∀ f ∈ D, f ∈ ((rvs.toList, rs.map rowDa) :: ([Value.ref a], [Da.obj o]) :: D) := fun f hf => .tail _ (.tail _ hf)
  have ha1 := hD _ ha
  have h₁ := hD _ h₁
  have h₂ := hD _ h₂
  have hr1 : (rvs.toList, rs.map rowDa) ∈ ((rvs.toList, rs.map rowDa) :: ([Value.ref a], [Da.obj o]) :: D) := .head _
  have ho1 : ([Value.ref a], [Da.obj o]) ∈ ((rvs.toList, rs.map rowDa) :: ([Value.ref a], [Da.obj o]) :: D) := .tail _ (.head _)
  generalize hD1 : ((rvs.toList, rs.map rowDa) :: ([Value.ref a], [Da.obj o]) :: D) = D1 at *
  have lin : ∀ {W : Own} {D' : Facts}, (∀ f ∈ D1, f ∈ D') → LstIn W D' a rvs := fun k => .kept (k _ ho1) hlo
  repeat walk_at "mi"
  refine m_itemt (ds := [.str r.1, .str r.2]) 1 hM h₁ (by decide) (by decide) (by rfl) (by rfl) fun v hM => ?_
  obtain ⟨u₁, rfl⟩ := hM.isStr (.head _)
  repeat walk_at "mi"
  refine m_itemt (ds := [.str r.1, .str r.2]) 0 hM (.tail _ h₁) (by decide) (by decide) (by rfl) (by rfl) fun v hM => ?_
  obtain ⟨u₂, rfl⟩ := hM.isStr (.head _)
  repeat walk_at "mi"
  refine m_itemt (ds := [.str r.1, .str r.2]) 1 hM (.tail _ (.tail _ h₁)) (by decide) (by decide) (by rfl) (by rfl) fun v hM => ?_
  obtain ⟨u₃, rfl⟩ := hM.isStr (.head _)
  repeat walk_at "mi"
  refine m_itemt (ds := [.str k.1, .str k.2]) 0 hM (.tail _ (.tail _ (.tail _ h₂))) (by decide) (by decide) (by rfl) (by rfl) fun v hM => ?_
  obtain ⟨u₄, rfl⟩ := hM.isStr (.head _)
  repeat walk_at "mi"
  refine m_itemt (ds := [.str k.1, .str k.2]) 1 hM (.tail _ (.tail _ (.tail _ (.tail _ h₂)))) (by decide) (by decide) (by rfl) (by rfl) fun v hM => ?_
  obtain ⟨u₅, rfl⟩ := hM.isStr (.head _)
  have hM := hM.sub (D' := D1) (by walk_at "up")
  repeat walk_at "mi"
  refine m_newT hM (ds := [.str (valS r), .str (lineS r), .str (lineS k)]) (fun _ _ => .cons (.str _ _) (.cons (.str _ _) (.cons (.str _ _) .nil))) (by walk_at "size") fun tp h t hM => ?_
  refine m_un3s hA'.h hM (.head _) fun v₁ v₂ v₃ h t hM => ?_
  obtain ⟨t₁, rfl⟩ := hM.isStr (.head _)
  obtain ⟨t₂, rfl⟩ := hM.isStr (v := v₂) (.tail _ (.head _))
  obtain ⟨t₃, rfl⟩ := hM.isStr (v := v₃) (.tail _ (.tail _ (.head _)))
  have hM := hM.sub (D' := D1) (by walk_at "up")
  repeat walk_at "mi"
  refine m_lenf hM ha1 (by rw [List.length_map]; walk_at "size") fun u => ?_
  rw [List.length_map]
  repeat walk_at "mi"
  refine m_range1 hM fun rg h t q₁ q₂ q₃ hM hrg => ?_
  refine n_range hA'.h hE (by rfl) (hM.know (l' := [(sx "above", .bool false), (sx "value", .str (valS r) t₁), (sx "line", .str (lineS r) t₂), (sx "end", .str (lineS k) t₃), (sx "text", .str txt tt), (sx "rows", .ref a), (sx "one", .ref o₁), (sx "other", .ref o₂)]) (by walk_at "kn")) hrg (small_ok (by omega) (by omega) (by omega) (by omega)) rs.length (by omega)
    (fun i l W' D' => l = [(sx "above", .bool ((List.range i).any (aboveAt rs r k))), (sx "value", .str (valS r) t₁), (sx "line", .str (lineS r) t₂), (sx "end", .str (lineS k) t₃), (sx "text", .str txt tt), (sx "rows", .ref a), (sx "one", .ref o₁), (sx "other", .ref o₂)] ∧ W' = [] ∧ D1 = D') ⟨rfl, rfl, rfl⟩ ?_ ?_
  · rintro i tc l₁ W' D' B₁ G₁ h t E' T hi ⟨rfl, rfl, rfl⟩ hM back hT
    have ei : (0 : Int) + (i : Int) = ((i : Nat) : Int) := by omega
    rw [ei] at hM
    have hri : rs[i]? = some rs[i] := List.getElem?_eq_getElem hi
    generalize rs[i] = z at hri
    have eab : aboveAt rs r k i = (decide (z.2 = r.2) && (rs.drop (i + 1)).contains k) := by unfold aboveAt; rw [hri]
    repeat walk_at "mi"
    refine m_itemf i hM ha1 (by omega) (by omega) (sidx (by rw [List.length_map]; exact hi)) (e := rowDa z) (by rw [List.getElem?_map, hri]; rfl) fun v hM => ?_
    obtain ⟨zt, rfl⟩ := hM.isTup (ds := [.str z.1, .str z.2]) (.head _)
    repeat walk_at "mi"
    refine m_itemt (ds := [.str z.1, .str z.2]) 1 hM (.head _) (by decide) (by decide) (by rfl) (by rfl) fun v hM => ?_
    obtain ⟨zu, rfl⟩ := hM.isStr (.head _)
    repeat walk_at "mi"
    refine m_itemt (ds := [.str r.1, .str r.2]) 1 hM (.tail _ (.tail _ h₁)) (by decide) (by decide) (by rfl) (by rfl) fun v hM => ?_
    obtain ⟨zv, rfl⟩ := hM.isStr (.head _)
    repeat walk_at "mi"
    have eq1 : (z.2 == r.2) = decide (z.2 = r.2) := by rw [Bool.eq_iff_iff, beq_iff_eq, decide_eq_true_eq]
    rw [eq1]
    refine Both.cond (fun ez => ?_) fun ez => ?_
    · repeat walk_at "mi"
      refine m_tailcut hM (lin (by walk_at "up")) (by walk_at "mem") (by omega) (.int _ _) .none (us := (rvs.toList.drop (i + 1)).toArray) (by
        have := slicePick_from' rvs (i + 1)
        exact this) fun cu h t hM => ?_
      have hM := hM.freezeL (ds := (rs.drop (i + 1)).map rowDa) fun G g => by
        rw [List.toList_toArray, List.map_drop]
        exact DaAll.drop (g _ (.tail _ (.tail _ (.tail _ (.tail _ hr1))))) _
      refine m_ind (hA'.le (d' := 0) (by decide) (by decide)) hM (.tail _ (.tail _ (.tail _ (.tail _ (.tail _ h₂))))) (.head _) (cm_row hk) (cm_rows fun r hr => hrk r (List.mem_of_mem_drop hr)) ?_
      rw [any_rows]
      repeat walk_at "mi"
      refine Both.of (fun ec => ?_) fun ec => ?_
      · repeat walk_at "mi"
        refine m_tuf hT hM ⟨?_, rfl, rfl⟩ (l' := [(sx "above", .bool true), (sx "value", .str (valS r) t₁), (sx "line", .str (lineS r) t₂), (sx "end", .str (lineS k) t₃), (sx "text", .str txt tt), (sx "rows", .ref a), (sx "one", .ref o₁), (sx "other", .ref o₂)]) (by walk_at "kn") fun G g f hf' => g f (by walk_at "up2")
        rw [any_snoc, eab, decide_eq_true ez, ec, Bool.and_true, Bool.or_true]
      · repeat walk_at "mi"
        refine m_tuf hT hM ⟨?_, rfl, rfl⟩ (l' := [(sx "above", .bool ((List.range i).any (aboveAt rs r k))), (sx "value", .str (valS r) t₁), (sx "line", .str (lineS r) t₂), (sx "end", .str (lineS k) t₃), (sx "text", .str txt tt), (sx "rows", .ref a), (sx "one", .ref o₁), (sx "other", .ref o₂)]) (by walk_at "kn") fun G g f hf' => g f (by walk_at "up2")
        rw [any_snoc, eab, ec, Bool.and_false, Bool.or_false]
    · repeat walk_at "mi"
      refine m_tuf hT hM ⟨?_, rfl, rfl⟩ (l' := [(sx "above", .bool ((List.range i).any (aboveAt rs r k))), (sx "value", .str (valS r) t₁), (sx "line", .str (lineS r) t₂), (sx "end", .str (lineS k) t₃), (sx "text", .str txt tt), (sx "rows", .ref a), (sx "one", .ref o₁), (sx "other", .ref o₂)]) (by walk_at "kn") fun G g f hf' => g f (by walk_at "up2")
      rw [any_snoc, eab, decide_eq_false ez, Bool.false_and, Bool.or_false]
  · rintro l₁ W' D' h t ⟨rfl, rfl, rfl⟩ hM
    have eF : (List.range rs.length).any (aboveAt rs r k) = aboveF rs r k := rfl
    rw [eF] at hM
    have lv : (valS r).length = r.2.length + 4 := by unfold valS sx; rw [len_app, len_app, x1, x2]; omega
    have ll : (lineS r).length = r.1.length + r.2.length + 4 := by unfold lineS sx; rw [len_app, len_app, len_app, x1, x2]; omega
    have lk2 : (lineS k).length = k.1.length + k.2.length + 4 := by unfold lineS sx; rw [len_app, len_app, len_app, x1, x2]; omega
    repeat walk_at "mi"
    have w1 : Str.ofString "..." ++ valS r ++ Str.ofString "......" ++ lineS k ++ Str.ofString "..." = want1 r k := rfl
    rw [w1]
    refine c_em gd hM (hA'.le (by decide) (by decide)) e₁.hc e₁.h1 e₁.hf e₁.hp e₁.hws e₁.hlw e₁.hlp htx fun h t hM => ?_
    rw [hv₁]
    repeat walk_at "mi"
    rw [beq_self_eq_true]
    have w2 : lineS r ++ Str.ofString "..." ++ lineS k ++ Str.ofString "\r\n" = want2 r k := rfl
    repeat walk_at "m"
    refine m_lenf hM ha1 (by rw [List.length_map]; walk_at "size") fun u => ?_
    rw [List.length_map]
    repeat walk_at "m"
    refine Both.cond (fun b1 => ?_) fun b1 => ?_
    · have hp1 : rs.length > 1 := by omega
      have h0 : rs[0]? = some rs[0] := List.getElem?_eq_getElem (by omega)
      have hz : rs[rs.length - 1]? = some rs[rs.length - 1] := List.getElem?_eq_getElem (by omega)
      have hh : rs.head? = some rs[0] := by rw [List.head?_eq_getElem?]; exact h0
      have hg : rs.getLast? = some rs[rs.length - 1] := by rw [List.getLast?_eq_getElem?]; exact hz
      generalize rs[0] = f0 at *
      generalize rs[rs.length - 1] = l0 at *
      have kf := hrk f0 (List.mem_of_getElem? h0)
      have kl := hrk l0 (List.mem_of_getElem? hz)
      have eB : bothF rs r k = (decide (f0 = r) && decide (l0 = k)) := by
        unfold bothF
        rw [decide_eq_true hp1, hh, hg, Bool.true_and]
        simp only [Option.some.injEq]
      repeat walk_at "m"
      refine m_itemf 0 hM ha1 (by decide) (by decide) (sidx (n := 0) (by rw [List.length_map]; omega)) (e := rowDa f0) (by rw [List.getElem?_map, h0]; rfl) fun v hM => ?_
      repeat walk_at "m"
      refine m_eqd (hA'.le (d' := 0) (by decide) (by decide)) hM (.head _) (.tail _ h₁) (cm_row kf) (cm_row hr) ?_
      rw [eqv_row]
      repeat walk_at "m"
      refine Both.cond (fun b2 => ?_) fun b2 => ?_
      · repeat walk_at "m"
        refine m_itemf (rs.length - 1) hM (.tail _ ha1) (by decide) (by decide) (by rw [List.length_map]; exact sidxLast (by omega)) (e := rowDa l0) (by rw [List.getElem?_map, hz]; rfl) fun v hM => ?_
        repeat walk_at "m"
        refine m_eqd (hA'.le (d' := 0) (by decide) (by decide)) hM (.head _) (.tail _ (.tail _ h₂)) (cm_row kl) (cm_row hk) ?_
        rw [eqv_row]
        have eB2 : bothF rs r k = decide (l0 = k) := by rw [eB, decide_eq_true b2, Bool.true_and]
        repeat walk_at "mi"
        rw [w2]
        refine c_em gd hM (hA'.le (by decide) (by decide)) e₂.hc e₂.h1 e₂.hf e₂.hp e₂.hws e₂.hlw e₂.hlp htx fun h t hM => ?_
        rw [hv₂, eB2]
        repeat walk_at "mi"
        rw [beq_self_eq_true]
        repeat walk_at "mi"
        exact m_fin hR hM fun hM => q _ _ (Mst.sub (Mst.un0 hM) fun f hf' => .tail _ (.tail _ (hD f hf')))
      · have eB2 : bothF rs r k = false := by rw [eB, decide_eq_false b2, Bool.false_and]
        rw [decide_eq_false b2]
        repeat walk_at "mi"
        rw [w2]
        refine c_em gd hM (hA'.le (by decide) (by decide)) e₂.hc e₂.h1 e₂.hf e₂.hp e₂.hws e₂.hlw e₂.hlp htx fun h t hM => ?_
        rw [hv₂, eB2]
        repeat walk_at "mi"
        rw [beq_self_eq_true]
        repeat walk_at "mi"
        exact m_fin hR hM fun hM => q _ _ (Mst.sub (Mst.un0 hM) fun f hf' => .tail _ (hD f hf'))
    · have eB2 : bothF rs r k = false := by unfold bothF; rw [decide_eq_false (by omega), Bool.false_and]
      rw [decide_eq_false b1]
      repeat walk_at "mi"
      rw [w2]
      refine c_em gd hM (hA'.le (by decide) (by decide)) e₂.hc e₂.h1 e₂.hf e₂.hp e₂.hws e₂.hlw e₂.hlp htx fun h t hM => ?_
      rw [hv₂, eB2]
      repeat walk_at "mi"
      rw [beq_self_eq_true]
      repeat walk_at "mi"
      exact m_fin hR hM fun hM => q _ _ (Mst.sub (Mst.un0 hM) fun f hf' => (hD f hf'))
end
set_option hygiene false in
local macro_rules | `(tactic| walk_at "up2") => `(tactic| repeat (first | exact hf' | apply List.Mem.tail))
/-! ## _law_at_an_end -/
def want3 (r : Row) : Str := lineS r ++ sx "..."
def want4 (r : Row) : Str := (sx "..." ++ lineS r) ++ sx "\r\n"
def want5 (r : Row) : Str := lineS r ++ sx "\r\n"
def textS (rs : List Row) : Str := Txt.join ⟨#[13, 10]⟩ (rs.map lineOf ++ [⟨#[]⟩, ⟨#[]⟩])
section
variable {prog : Program} {w : World} {A : Around} {E : Value → Shared → Prop} {H0 : Heap} {B G₀ : Gr} {L : Addr} {m : Loc} {W : Own} {D : Facts} {h : Heap} {g : Array GenState} {d : Drawn} {t : Nat} {os : OsState}
theorem c_atend {a o₁ : Addr} {rs ws₂ ws₃ ws₄} {txt : Str} {tt : Tok} {r : Row} {Q : Value → Shared → Prop} (gd : Gd (KF w.params) H0) (hM : Mst H0 B G₀ L m W D h) (hA : Rm A 16 70)
    (ha : ([.ref a], [.lst (rs.map rowDa)]) ∈ D) (h₁ : ([.ref o₁], [rowDa r]) ∈ D) (hlen : rs.length ≤ 900) (hpos : 0 < rs.length) (hrk : ∀ r ∈ rs, Rk r) (hr : Rk r) (hok : RowOk r)
    (hl : r.1.length ≤ 900 ∧ r.2.length ≤ 900) (htx : txt.length ≤ 100000) (hal : (textS [r]).length ≤ 100000) (e₂ : EmOk (want2 r r) ws₂) (e₃ : EmOk (want3 r) ws₃) (e₄ : EmOk (want4 r) ws₄) (e₅ : Txt.contains (want5 r) dots = false)
    (hv₂ : emW ws₂ (textS [r]) = false) (hv₃ : emW ws₃ txt = decide (rs.head? = some r)) (hv₄ : emW ws₄ txt = decide (rs.getLast? = some r)) (hv₅ : (want5 r == textS [r]) = true) (hv₆ : (want5 r == txt) = decide (rs = [r]))
    (q : ∀ h' t', Mst H0 B G₀ L m W D h' → Q (.bool true) ⟨h', g, d, t', os⟩) :
    wpAny (model prog w) A (call (.ref 304) [.str txt tt, .ref a, .ref o₁]) Q E ⟨h, g, d, t, os⟩ := by
  have hM' : Mst H0 B G₀ L m (W ++ []) D h := hM.app0
  refine m_def (binds := [(sx "text", .str txt tt), (sx "rows", .ref a), (sx "one", .ref o₁)]) gd hM' (hA.le (d' := 15 + 1) (u' := 64 + 3) (by decide) (by decide)) (by rfl) (by rfl) (BindsTo.of_eq (by rfl)) (by rfl) ?_
  clear hM hM'
  intro env A' L' B' G' h t R E' hE hA' hM hR _
  obtain ⟨hl1, hl2⟩ := hl
  have x1 : (Str.ofString ": ").length = 2 := by rfl
  have x2 : (Str.ofString "\r\n").length = 2 := by rfl
  have x3 : (Str.ofString "...").length = 3 := by rfl
  have ll : (lineS r).length = r.1.length + r.2.length + 4 := by unfold lineS sx; rw [len_app, len_app, len_app, x1, x2]; omega
  have h0 : rs[0]? = some rs[0] := List.getElem?_eq_getElem hpos
  have hz : rs[rs.length - 1]? = some rs[rs.length - 1] := List.getElem?_eq_getElem (by omega)
  have hh : rs.head? = some rs[0] := by rw [List.head?_eq_getElem?]; exact h0
  have hg : rs.getLast? = some rs[rs.length - 1] := by rw [List.getLast?_eq_getElem?]; exact hz
  generalize rs[0] = f0 at *
  generalize rs[rs.length - 1] = l0 at *
  have kf := hrk f0 (List.mem_of_getElem? h0)
  have kl := hrk l0 (List.mem_of_getElem? hz)
  have hv3 : emW ws₃ txt = decide (f0 = r) := by rw [hv₃, hh]; exact decide_eq_decide.mpr (by rw [Option.some.injEq])
  have hv4 : emW ws₄ txt = decide (l0 = r) := by rw [hv₄, hg]; exact decide_eq_decide.mpr (by rw [Option.some.injEq])
  have w3 : lineS r ++ Str.ofString "..." = want3 r := rfl
  have w4 : Str.ofString "..." ++ lineS r ++ Str.ofString "\r\n" = want4 r := rfl
  have w2 : lineS r ++ Str.ofString "..." ++ lineS r ++ Str.ofString "\r\n" = want2 r r := rfl
  have w5 : lineS r ++ Str.ofString "\r\n" = want5 r := rfl
  have wl : r.1 ++ Str.ofString ": " ++ r.2 ++ Str.ofString "\r\n" = lineS r := rfl
  repeat walk_at "mi"
  refine m_itemt (ds := [.str r.1, .str r.2]) 0 hM h₁ (by decide) (by decide) (by rfl) (by rfl) fun v hM => ?_
  obtain ⟨u₂, rfl⟩ := hM.isStr (.head _)
  repeat walk_at "mi"
  refine m_itemt (ds := [.str r.1, .str r.2]) 1 hM (.tail _ h₁) (by decide) (by decide) (by rfl) (by rfl) fun v hM => ?_
  obtain ⟨u₃, rfl⟩ := hM.isStr (.head _)
  have hM := hM.sub (D' := D) (by walk_at "up")
  walk_at "mi"
  walk_at "mi"
  walk_at "mi"
  rw [wl]
  repeat walk_at "mi"
  rw [w3]
  refine c_em gd hM (hA'.le (by decide) (by decide)) e₃.hc e₃.h1 e₃.hf e₃.hp e₃.hws e₃.hlw e₃.hlp htx fun h t hM => ?_
  rw [hv3]
  repeat walk_at "mi"
  refine m_itemf 0 hM ha (by decide) (by decide) (sidx (n := 0) (by rw [List.length_map]; omega)) (e := rowDa f0) (by rw [List.getElem?_map, h0]; rfl) fun v hM => ?_
  repeat walk_at "mi"
  refine m_eqd (hA'.le (d' := 0) (by decide) (by decide)) hM (.head _) (.tail _ h₁) (cm_row kf) (cm_row hr) ?_
  rw [eqv_row]
  have hM := hM.sub (D' := D) (by walk_at "up")
  repeat walk_at "mi"
  rw [beq_self_eq_true]
  repeat walk_at "mi"
  rw [w4]
  refine c_em gd hM (hA'.le (by decide) (by decide)) e₄.hc e₄.h1 e₄.hf e₄.hp e₄.hws e₄.hlw e₄.hlp htx fun h t hM => ?_
  rw [hv4]
  repeat walk_at "mi"
  refine m_itemf (rs.length - 1) hM ha (by decide) (by decide) (by rw [List.length_map]; exact sidxLast (by omega)) (e := rowDa l0) (by rw [List.getElem?_map, hz]; rfl) fun v hM => ?_
  repeat walk_at "mi"
  refine m_eqd (hA'.le (d' := 0) (by decide) (by decide)) hM (.head _) (.tail _ h₁) (cm_row kl) (cm_row hr) ?_
  rw [eqv_row]
  have hM := hM.sub (D' := D) (by walk_at "up")
  repeat walk_at "mi"
  rw [beq_self_eq_true]
  repeat walk_at "mi"
  refine m_newW hM (by walk_at "size") fun z h t hM => ?_
  repeat walk_at "mi"
  have hM := hM.with (f := ([Value.ref o₁].toArray.toList, [r].map rowDa)) fun G g => .one (g _ h₁).head
  refine c_hdL gd hM (hA'.le (by decide) (by decide)) (.head _) (fun r' hr' => by rw [List.mem_singleton.mp hr']; exact ⟨hok.name.fine, hok.lead⟩) fun y D2 h t hy hD2 hM => ?_
  repeat walk_at "mi"
  obtain ⟨ty, fy, hiy, efy⟩ := hy.inst
  refine m_istr gd hM (hA'.le (d' := 14) (u' := 60) (by decide) (by decide) |>.le (d' := 0) (by decide) (by decide)) (hiy _) (hd_f_str _) (t_231 _) ?_
  refine c_str gd hM (((hA'.le (d' := 12) (u' := 52) (by decide) (by decide)).in1).in1) hy (hD2 _ (.head _)) (by simp) (fun r' hr' => by rw [List.mem_singleton.mp hr']; exact ⟨by omega, by omega⟩) fun u h t hM => ?_
  refine ⟨_, _, rfl, ?_⟩
  have et : Txt.join ⟨#[13, 10]⟩ ([r].map lineOf ++ [⟨#[]⟩, ⟨#[]⟩]) = textS [r] := rfl
  rw [et]
  have hM := (hM.pick (W' := []) (List.nil_sublist _)).sub (D' := D) fun f hf' => hD2 f (.tail _ hf')
  repeat walk_at "mi"
  rw [w2]
  refine c_em gd hM (hA'.le (by decide) (by decide)) e₂.hc e₂.h1 e₂.hf e₂.hp e₂.hws e₂.hlw e₂.hlp hal fun h t hM => ?_
  rw [hv₂]
  repeat walk_at "mi"
  rw [beq_self_eq_true]
  repeat walk_at "mi"
  rw [w5]
  refine c_em0 gd hM (hA'.le (by decide) (by decide)) e₅ fun h t hM => ?_
  rw [hv₅]
  repeat walk_at "mi"
  rw [beq_self_eq_true]
  repeat walk_at "mi"
  rw [w5]
  refine c_em0 gd hM (hA'.le (by decide) (by decide)) e₅ fun h t hM => ?_
  rw [hv₆]
  repeat walk_at "mi"
  refine m_newL hM (ds := [r].map rowDa) (fun G g => .one (g _ h₁).head) (by walk_at "size") fun z₂ h t hM => ?_
  refine m_eqd (hA'.le (d' := 0) (by decide) (by decide)) hM (.tail _ ha) (.head _) (cm_rows hrk) (cm_rows fun r' hr' => by rw [List.mem_singleton.mp hr']; exact hr) ?_
  rw [eqv_rows]
  repeat walk_at "mi"
  rw [beq_self_eq_true]
  exact m_fin hR hM fun hM => q _ _ (Mst.sub (Mst.un0 hM) fun f hf' => .tail _ hf')
end
set_option hygiene false in
local macro_rules | `(tactic| walk_at "up2") => `(tactic| repeat (first | exact hf' | apply List.Mem.tail))
/-! ## _law_played -/
def playF (ss : List Row) : List Row := ss.foldl (fun rs s => (keptF rs s.1 s.2).1) []
/-- a step that all that is done here takes -/
structure Fit (r : Row) : Prop where
  ok : RowOk r
  rk : Rk r
  l1 : r.1.length ≤ 900
  l2 : r.2.length ≤ 900
  ws : WsFit (wsOf r.2)
  wl : WsFit (wsOf (r.2 ++ xTab))
theorem play_snoc (ss : List Row) (s : Row) : playF (ss ++ [s]) = (keptF (playF ss) s.1 s.2).1 := by
  unfold playF; rw [List.foldl_append]; rfl
theorem kept_mem {rs : List Row} {nm ld : Str} : ∀ r ∈ (keptF rs nm ld).1, r ∈ rs ∨ r = (nm, ld) := by
  intro r hr
  unfold keptF at hr
  have app : ∀ {l : List Row}, (∀ x ∈ l, x ∈ rs) → r ∈ l ++ [(nm, ld)] → r ∈ rs ∨ r = (nm, ld) := fun k h => by
    rcases List.mem_append.mp h with h | h
    · exact .inl (k _ h)
    · exact .inr (List.mem_singleton.mp h)
  split at hr
  · split at hr
    · exact app (fun _ h => h) hr
    · split at hr
      · exact .inl hr
      · exact app (fun _ h => (List.mem_filter.mp h).1) hr
  · exact app (fun _ h => h) hr
theorem kept_len {rs : List Row} {nm ld : Str} : (keptF rs nm ld).1.length ≤ rs.length + 1 := by
  unfold keptF
  split
  · split
    · simp
    · split
      · exact Nat.le_succ _
      · simp only [List.length_append, List.length_singleton]
        exact Nat.succ_le_succ (List.length_filter_le _ _)
  · simp
theorem kept_due {rs : List Row} {nm ld : Str} : ∀ z, (keptF rs nm ld).2 = some z → z = ld ∨ ∃ r ∈ rs, r.2 = z := by
  intro z hz
  unfold keptF at hz
  split at hz
  · rename_i l f hl hf
    split at hz
    · cases hz
    · split at hz
      · cases hz
        exact .inr ⟨f, (List.mem_filter.mp (List.mem_of_mem_head? hf)).1, rfl⟩
      · cases hz
  · cases hz; exact .inl rfl
theorem play_len' : ∀ (ss acc : List Row), (ss.foldl (fun rs s => (keptF rs s.1 s.2).1) acc).length ≤ acc.length + ss.length
  | [], acc => Nat.le_refl _
  | s :: ss, acc => by
    rw [List.foldl_cons, List.length_cons]
    have h1 := play_len' ss (keptF acc s.1 s.2).1
    have h2 := kept_len (rs := acc) (nm := s.1) (ld := s.2)
    omega
theorem play_mem' : ∀ (ss acc : List Row), ∀ r ∈ ss.foldl (fun rs s => (keptF rs s.1 s.2).1) acc, r ∈ acc ∨ r ∈ ss
  | [], acc, r, h => .inl h
  | s :: ss, acc, r, h => by
    rw [List.foldl_cons] at h
    rcases play_mem' ss _ r h with h | h
    · rcases kept_mem r h with h | h
      · exact .inl h
      · exact .inr (by rw [h]; exact .head _)
    · exact .inr (.tail _ h)
theorem play_len (ss : List Row) : (playF ss).length ≤ ss.length := by
  have := play_len' ss []
  rw [List.length_nil, Nat.zero_add] at this
  exact this
theorem play_mem (ss : List Row) : ∀ r ∈ playF ss, r ∈ ss := fun r h => by
  rcases play_mem' ss [] r h with h | h
  · cases h
  · exact h
section
variable {prog : Program} {w : World} {A : Around} {E : Value → Shared → Prop} {H0 : Heap} {B G₀ : Gr} {L : Addr} {m : Loc} {W : Own} {D : Facts} {h : Heap} {g : Array GenState} {d : Drawn} {t : Nat} {os : OsState}
theorem c_played {x lst st : Addr} {ss : List Row} {Q : Value → Shared → Prop} (gd : Gd (KF w.params) H0) (hM : Mst H0 B G₀ L m ((lst, .lst #[]) :: W) D h) (hA : Rm A 22 90) (hx : TabAt D x lst) (hs : ([.ref st], [.lst (ss.map rowDa)]) ∈ D)
    (hlen : ss.length ≤ 100) (hfit : ∀ s ∈ ss, Fit s) (hkp : ∀ (i : Nat) (s : Row), ss[i]? = some s → putF (playF (ss.take i)) s.1 s.2 = keptF (playF (ss.take i)) s.1 s.2)
    (q : ∀ r vs h' t', Mst H0 B G₀ L m ((lst, .lst vs) :: W) (([.ref r], [.lst ((playF ss).map rowDa)]) :: (vs.toList, (playF ss).map rowDa) :: D) h' → Q (.ref r) ⟨h', g, d, t', os⟩) :
    wpAny (model prog w) A (call (.ref 311) [.ref x, .ref st]) Q E ⟨h, g, d, t, os⟩ := by
  have hM' : Mst H0 B G₀ L m (W ++ [(lst, .lst #[])]) D h := hM.last
  refine m_def (binds := [(sx "table", .ref x), (sx "steps", .ref st)]) gd hM' (hA.le (d' := 21 + 1) (u' := 84 + 3) (by decide) (by decide)) (by rfl) (by rfl) (BindsTo.of_eq (by rfl)) (by rfl) ?_
  clear hM hM'
  intro env A' L' B' G' h t R E' hE hA' hM hR _
  repeat walk_at "mi"
  refine m_newL hM (ds := []) (by walk_at "fact") (by walk_at "size") fun e₀ h t hM => ?_
  repeat walk_at "mi"
  obtain ⟨_, -, haW, haL, -, -⟩ := hM.items (.tail _ hs)
  obtain ⟨svs, o, hlo, hvs, hM⟩ := hM.open (.tail _ hs)
  rw [List.length_map] at hvs
  have hL := hM.lst (.kept (.tail _ (.head _)) hlo)
  have hM := (hM.know (l' := [(sx "rows", .ref e₀), (sx "table", .ref x), (sx "steps", .ref st)]) (by walk_at "kn")).facts (D' := ([.ref e₀], [.lst ([].map rowDa)]) :: ([], [].map rowDa) :: (svs.toList, ss.map rowDa) :: D) fun G g f hf' => by
    rcases List.mem_cons.mp hf' with rfl | hf'
    · exact g _ (.tail _ (.tail _ (.head _)))
    rcases List.mem_cons.mp hf' with rfl | hf'
    · exact .nil
    rcases List.mem_cons.mp hf' with rfl | hf'
    · exact g _ (.head _)
    · exact g f (.tail _ (.tail _ (.tail _ hf')))
  have hM : Mst H0 B' G' L' _ ([] ++ [(lst, .lst #[])]) _ _ := hM
  refine n_list2 hA'.h hE (by rfl) (by rfl) hM hL haL haW rows_two
    (fun i l W' D' => ∃ (a : Addr) (vs : Array Value), l = [(sx "rows", .ref a), (sx "table", .ref x), (sx "steps", .ref st)] ∧ W' = [(lst, .lst vs)] ∧
      D' = ([.ref a], [.lst ((playF (ss.take i)).map rowDa)]) :: (vs.toList, (playF (ss.take i)).map rowDa) :: (svs.toList, ss.map rowDa) :: D)
    (fun i l W' D' j => by obtain ⟨_, _, -, -, rfl⟩ := j; exact .tail _ (.tail _ (.head _))) ⟨e₀, #[], rfl, rfl, rfl⟩ ?_ ?_
  · rintro i d₁ d₂ v₁ v₂ l₁ W' D' B₁ G₁ h t E' T hd ⟨a, vs, rfl, rfl, rfl⟩ hM back hT
    rw [List.getElem?_map] at hd
    obtain ⟨s, hsi, e⟩ := Option.map_eq_some_iff.mp hd
    cases e
    have hsf := hfit s (List.mem_of_getElem? hsi)
    have hkpi := hkp i s hsi
    have hnext : playF (ss.take (i + 1)) = (keptF (playF (ss.take i)) s.1 s.2).1 := by rw [take_snoc' hsi, play_snoc]
    have hrl : (playF (ss.take i)).length ≤ 100 := Nat.le_trans (play_len _) (Nat.le_trans (List.length_take_le' _ _) hlen)
    have hrm : ∀ r ∈ playF (ss.take i), Fit r := fun r hr => hfit r (List.mem_of_mem_take (play_mem _ r hr))
    generalize playF (ss.take i) = rs at *
    obtain ⟨u₁, rfl⟩ := hM.isStr (.head _)
    obtain ⟨u₂, rfl⟩ := hM.isStr (v := v₂) (.tail _ (.head _))
    have hM := hM.sub (D' := ([.ref a], [.lst (rs.map rowDa)]) :: (vs.toList, rs.map rowDa) :: (svs.toList, ss.map rowDa) :: D) fun f hf => .tail _ (.tail _ hf)
    repeat walk_at "mi"
    have hrk : ∀ r ∈ rs, Rk r := fun r hr => (hrm r hr).rk
    refine c_kept gd hM (hA'.le (by decide) (by decide)) (.head _) (by omega) (fun r hr => Nat.le_trans (hrm r hr).l1 (by decide)) (Nat.le_trans hsf.l1 (by decide)) hrk fun T₁ h t hM => ?_
    refine m_un2 hA'.h hM (.head _) fun v₁ v₂ h t hM => ?_
    obtain ⟨ra, rfl⟩ := hM.isLst (.head _)
    have hM := hM.facts (D' := ([.ref ra], [.lst ((keptF rs s.1 s.2).1.map rowDa)]) :: ([v₂], [optDa (keptF rs s.1 s.2).2 .none]) :: (vs.toList, rs.map rowDa) :: (svs.toList, ss.map rowDa) :: D) fun G g f hf' => by
      rcases List.mem_cons.mp hf' with rfl | hf'
      · exact g _ (.head _)
      rcases List.mem_cons.mp hf' with rfl | hf'
      · exact g _ (.tail _ (.head _))
      · exact g f (.tail _ (.tail _ (.tail _ (.tail _ hf'))))
    repeat walk_at "mi"
    refine c_put gd hM (hA'.le (by decide) (by decide)) (hx.mono (by walk_at "up")) (by walk_at "mem") (by omega) (fun r hr => (hrm r hr).ok) hsf.ok hrk (fun r hr => (hrm r hr).l2) hsf.l2 (fun r hr => (hrm r hr).ws) hsf.wl fun vs' pv h t hM => ?_
    rw [hkpi] at hM
    have hkl : (keptF rs s.1 s.2).1.length ≤ 101 := Nat.le_trans kept_len (by omega)
    have hkk : ∀ r ∈ (keptF rs s.1 s.2).1, Rk r := fun r hr => by
      rcases kept_mem r hr with h | h
      · exact hrk r h
      · rw [h]; exact hsf.rk
    have hkd : ∀ z, (keptF rs s.1 s.2).2 = some z → PyData.strOk z = true := fun z hz => by
      rcases kept_due z hz with h | ⟨r, hr, rfl⟩
      · rw [h]; exact hsf.rk.2
      · exact (hrk r hr).2
    have hvz : vs'.size ≤ 101 := by
      have := hM.has (.tail _ (.head _))
      rw [Array.length_toList, List.length_map] at this
      omega
    repeat walk_at "mi"
    refine m_ned (hA'.le (d' := 0) (by decide) (by decide)) hM (.head _) (d₂ := optDa (keptF rs s.1 s.2).2 .none) (.tail _ (.tail _ (.tail _ (.head _)))) (cm_opt hkd) (cm_opt hkd) ?_
    rw [eqv_opt]
    repeat walk_at "mi"
    refine m_hm gd hM hx (by walk_at "up") (hd_f_items _) (t_219 _) (by rfl) ?_
    repeat walk_at "mi"
    refine c_items gd hM (hA'.le (by decide) (by decide)) (hx.mono (by walk_at "up")) (by omega) fun ti h t hM => ?_
    have hM := hM.freezeL (ds := (keptF rs s.1 s.2).1.map rowDa) fun G g => g _ (.tail _ (.head _))
    repeat walk_at "mi"
    refine m_ned (hA'.le (d' := 0) (by decide) (by decide)) hM (.head _) (d₂ := .lst ((keptF rs s.1 s.2).1.map rowDa)) (.tail _ (.tail _ (.tail _ (.head _)))) (cm_rows hkk) (cm_rows hkk) ?_
    rw [eqv_rows, decide_eq_true rfl]
    repeat walk_at "mi"
    refine m_tuf hT hM (l' := [(sx "rows", .ref ra), (sx "table", .ref x), (sx "steps", .ref st)]) (D'' := ([.ref ra], [.lst ((playF (ss.take (i + 1))).map rowDa)]) :: (vs'.toList, (playF (ss.take (i + 1))).map rowDa) :: (svs.toList, ss.map rowDa) :: D) ⟨ra, vs', rfl, rfl, rfl⟩ (by walk_at "kn") fun G g f hf' => ?_
    rw [hnext] at hf'
    rcases List.mem_cons.mp hf' with rfl | hf'
    · exact g _ (by walk_at "mem")
    rcases List.mem_cons.mp hf' with rfl | hf'
    · exact g _ (by walk_at "mem")
    rcases List.mem_cons.mp hf' with rfl | hf'
    · exact g _ (by walk_at "mem")
    · exact g f (by walk_at "up2")
  · rintro l₁ W' D' h t ⟨a, vs, rfl, rfl, rfl⟩ hM
    rw [hvs, List.take_length] at hM
    have hM : Mst H0 B' G' L' _ ([] ++ [(lst, .lst vs)]) _ _ := hM
    repeat walk_at "mi"
    refine m_fin hR hM fun hM => q a vs _ _ (Mst.sub (Mst.first hM) fun f hf' => ?_)
    rcases List.mem_cons.mp hf' with rfl | hf'
    · exact .head _
    rcases List.mem_cons.mp hf' with rfl | hf'
    · exact .tail _ (.head _)
    · exact .tail _ (.tail _ (.tail _ hf'))
end
set_option hygiene false in
local macro_rules | `(tactic| walk_at "up2") => `(tactic| repeat (first | exact hf' | apply List.Mem.tail))
/-! ## law -/
def textL (rs : List Row) : Str := Txt.join (sx "") (rs.map lineS) ++ sx "\r\n"
def numsOf (zs : List Int) : List Nat := [4, 17, 6] ++ (zs.take 3).map fun z => (z.fmod 1000000).toNat
/-- what the plain law says of a run's steps -/
structure PlainOk (ss : List Row) : Prop where
  fit : ∀ s ∈ ss, Fit s
  nm : ∀ s ∈ ss, NameIn s
  kp : ∀ (i : Nat) (s : Row), ss[i]? = some s → putF (playF (ss.take i)) s.1 s.2 = keptF (playF (ss.take i)) s.1 s.2
  ne : playF ss ≠ []
  txt : textS (playF ss) = textL (playF ss)
  tl : (textL (playF ss)).length ≤ 100000
  atend : ∀ r ∈ ss, ∃ ws₂ ws₃ ws₄, (textS [r]).length ≤ 100000 ∧ EmOk (want2 r r) ws₂ ∧ EmOk (want3 r) ws₃ ∧ EmOk (want4 r) ws₄ ∧ Txt.contains (want5 r) dots = false ∧ emW ws₂ (textS [r]) = false ∧
    emW ws₃ (textL (playF ss)) = decide ((playF ss).head? = some r) ∧ emW ws₄ (textL (playF ss)) = decide ((playF ss).getLast? = some r) ∧ (want5 r == textS [r]) = true ∧ (want5 r == textL (playF ss)) = decide (playF ss = [r])
  found : ∀ r ∈ ss, ∀ k ∈ ss, ∃ ws₁ ws₂, EmOk (want1 r k) ws₁ ∧ EmOk (want2 r k) ws₂ ∧ emW ws₁ (textL (playF ss)) = aboveF (playF ss) r k ∧ emW ws₂ (textL (playF ss)) = bothF (playF ss) r k
theorem DaAll.take {G : Gr} : ∀ {vs : List Value} {ds : List Da}, DaAll G vs ds → ∀ n, DaAll G (vs.take n) (ds.take n)
  | _, _, _, 0 => .nil
  | _, _, .nil, _ + 1 => .nil
  | _, _, .cons h r, n + 1 => .cons h (DaAll.take r n)
theorem int_det (G : Gr) (v : Value) (r r' : Int) (h : DaIn G v (Da.int r)) (h' : DaIn G v (Da.int r')) : r = r' := by
  obtain ⟨t, rfl⟩ := DaIn.intInv h
  obtain ⟨t', e⟩ := DaIn.intInv h'
  injection e
theorem fmod_ok (z : Int) : z.fmod 1000000 = ((z.fmod 1000000).toNat : Int) ∧ (z.fmod 1000000).toNat < 1000000 := by
  have h1 : 0 ≤ z.fmod 1000000 := Int.fmod_nonneg_of_pos _ (by decide)
  have h2 : z.fmod 1000000 < 1000000 := Int.fmod_lt_of_pos _ (by decide)
  omega
theorem LstIn.up {D D' : Facts} {a : Addr} {vs : Array Value} (i : LstIn [] D a vs) (k : ∀ f ∈ D, f ∈ D') : LstIn [] D' a vs := by
  cases i with
  | own h => cases h
  | ownx h => cases h
  | kept h ho => exact .kept (k _ h) ho
section
variable {prog : Program} {w : World} {A : Around} {E : Value → Shared → Prop} {h : Heap} {g : Array GenState} {d : Drawn} {t : Nat} {os : OsState}
theorem r_adds {x y : Str} {u v : Tok} {Q : Value → Shared → Prop} (hsz : x.length + y.length ≤ 1000000) (q : ∀ u' t', Q (.str (x ++ y) u') ⟨h, g, d, t', os⟩) :
    wpAny (model prog w) A (binaryOp .Add (.str x u) (.str y v)) Q E ⟨h, g, d, t, os⟩ := PyProof.Rows.add_str (s := ⟨h, g, d, t, os⟩) (fun u' tk => q u' tk) (Nat.le_trans hsz (by decide))
end
section
variable {prog : Program} {w : World} {A : Around} {E : Value → Shared → Prop} {H0 : Heap} {g : Array GenState} {d : Drawn} {t : Nat} {os : OsState}
theorem c_law {scr : Addr} {zs : List Int} {Q : Value → Shared → Prop} (gd : Gd (KF w.params) H0) (hA : Rm A 28 110) (hs0 : DaIn H0.get? (.ref scr) (.lst (zs.map Da.int))) (hz : zs.length ≤ 63)
    (hp : PlainOk ((numsOf zs).map stepRow)) (q : ∀ h' t', (∀ b o, H0.get? b = some o → h'.get? b = some o) → Q (.bool true) ⟨h', g, d, t', os⟩) :
    wpAny (model prog w) A (call (.ref 316) [.ref scr]) Q E ⟨H0, g, d, t, os⟩ := by
  refine m_deftop (binds := [(sx "script", .ref scr)]) [([.ref scr], [.lst (zs.map Da.int)])] gd (fun f hf => by rw [List.mem_singleton.mp hf]; exact .one hs0) (hA.le (d' := 27 + 1) (u' := 104 + 3) (by decide) (by decide)) (by rfl) (by rfl) (BindsTo.of_eq (by rfl)) (by rfl) ?_
  intro env A' L' B' G' h t R E' hE hA' hM hR
  obtain ⟨D, hD0, hs⟩ : ∃ D : Facts, D = [([.ref scr], [.lst (zs.map Da.int)])] ∧ ([.ref scr], [.lst (zs.map Da.int)]) ∈ D := ⟨_, rfl, .head _⟩
  rw [← hD0] at hM
  clear hD0
  obtain ⟨svs, o, hlo, hvs, hM⟩ := hM.open hs
  rw [List.length_map] at hvs
  repeat walk_at "mi"
  refine m_newW hM (by walk_at "size") fun z₀ h t hM => ?_
  refine m_compG int_det (vs := (svs.toList.take 3).toArray) (rs := zs.take 3) (fun _ => true) (fun z => .int (z.fmod 1000000)) (hM.with (f := ((svs.toList.take 3).toArray.toList, (zs.take 3).map Da.int)) fun G g => by
    rw [List.toList_toArray, List.map_take]
    exact DaAll.take (g _ (.head _)) 3) (.head _) (closure_none (by rfl)) fun p F hpf => ?_
  repeat walk_at "mi"
  refine m_tailcut hM (.kept (by walk_at "mem") hlo) (by walk_at "mem") (by omega) .none (.int _ _) (slicePick_upto' svs 3) fun cu h t hM => ?_
  have hM := hM.with (f := ((svs.toList.take 3).toArray.toList, (zs.take 3).map Da.int)) fun G g => by
    rw [List.toList_toArray, List.map_take]
    exact DaAll.take (g (svs.toList, zs.map Da.int) (by walk_at "mem")) 3
  refine m_compgo hpf hA'.h hM (hM.lst (.own (.head _))) (.head _) (by rw [List.length_take]; omega) ?_ ?_ ?_
  · intro C₁ r v h₃ g₃ d₃ t os₃ m₃ E' hr hv hN hm kk
    exact r_if0 ⟨rfl, _, rfl⟩
  · intro C₁ r v h₃ g₃ d₃ t os₃ m₃ E' hr ht hv hN hm kk
    obtain ⟨tr, rfl⟩ := DaIn.intInv hv
    repeat walk_at "mi"
    refine r_ld (compEnvIs hE (by rfl)) hN hm (by rfl) ?_
    repeat walk_at "mi"
    exact ⟨fun G _ => .int _ _, _, rfl⟩
  intro cl ys h t hM
  have eft : (zs.take 3).filter (fun _ => true) = zs.take 3 := List.filter_eq_self.mpr fun _ _ => rfl
  rw [eft] at hM
  have hys : ys.size ≤ 3 := by
    have := hM.has (.head _)
    rw [Array.length_toList, List.length_map, List.length_take] at this
    omega
  refine m_addl hM (.own (by walk_at "mem")) (.own (by walk_at "mem")) (by simp; walk_at "size") fun nl h t hM => ?_
  have hM := hM.freezeL (ds := intsDa (numsOf zs)) fun G g => by
    have e : intsDa (numsOf zs) = [Da.int 4, Da.int 17, Da.int 6] ++ (zs.take 3).map fun z => Da.int (z.fmod 1000000) := by
      unfold intsDa numsOf
      rw [List.map_append, List.map_map]
      have e2 : (zs.take 3).map ((fun (n : Nat) => Da.int (n : Int)) ∘ fun z => (z.fmod 1000000).toNat) = (zs.take 3).map fun z => Da.int (z.fmod 1000000) := List.map_congr_left fun z _ => by
        show Da.int (((z.fmod 1000000).toNat : Nat) : Int) = _
        rw [← (fmod_ok z).1]
      rw [e2]; rfl
    rw [e, List.toList_toArray]
    exact DaAll.append (.cons (.int _ _) (.cons (.int _ _) (.cons (.int _ _) .nil))) (g _ (.head _))
  have hnl : (numsOf zs).length ≤ 6 := by unfold numsOf; rw [List.length_append, List.length_map, List.length_take]; simp; omega
  have hns : ∀ n ∈ numsOf zs, n < 1000000 := fun n hn => by
    unfold numsOf at hn
    rcases List.mem_append.mp hn with hn | hn
    · simp at hn; omega
    · obtain ⟨z, _, rfl⟩ := List.mem_map.mp hn
      exact (fmod_ok z).2
  generalize numsOf zs = ns at *
  have hM := (hM.pick (W' := []) (List.nil_sublist _)).facts (D' := ([.ref nl], [.lst (intsDa ns)]) :: D) fun G g f hf' => by
    rcases List.mem_cons.mp hf' with rfl | hf'
    · exact g _ (.head _)
    · exact g f (by walk_at "up2")
  repeat walk_at "mi"
  refine c_steps gd hM (hA'.le (by decide) (by decide)) (.head _) hns (by omega) fun st h t hM => ?_
  have hsl : (ns.map stepRow).length ≤ 6 := by rw [List.length_map]; exact hnl
  generalize ns.map stepRow = ss at *
  have hM := hM.facts (D' := ([.ref st], [.lst (ss.map rowDa)]) :: D) fun G g f hf' => by
    rcases List.mem_cons.mp hf' with rfl | hf'
    · exact g _ (.head _)
    · exact g f (by walk_at "up2")
  repeat walk_at "mi"
  refine c_hd0 gd hM (hA'.le (by decide) (by decide)) fun x lst D1 h t hx hD1 hM => ?_
  repeat walk_at "mi"
  refine c_played gd hM (hA'.le (by decide) (by decide)) hx (hD1 _ (.head _)) (by omega) hp.fit hp.kp fun ra vs h t hM => ?_
  obtain ⟨hfit, hnm, -, hne, htxt, htl, hat, hfo⟩ := hp
  have hpl : (playF ss).length ≤ 6 := Nat.le_trans (play_len ss) hsl
  have hpm : ∀ r ∈ playF ss, r ∈ ss := play_mem ss
  generalize playF ss = rs at *
  have hrk : ∀ r ∈ rs, Rk r := fun r hr => (hfit r (hpm r hr)).rk
  obtain ⟨rvs, ro, hro, hrz, hM⟩ := hM.open (.head _)
  rw [List.length_map] at hrz
  have hra : ([Value.ref ra], [Da.lst (rs.map rowDa)]) ∈ ((rvs.toList, rs.map rowDa) :: ([Value.ref ra], [Da.obj ro]) :: ([Value.ref ra], [Da.lst (rs.map rowDa)]) :: (vs.toList, rs.map rowDa) :: D1) := .tail _ (.tail _ (.head _))
  have hro1 : ([Value.ref ra], [Da.obj ro]) ∈ ((rvs.toList, rs.map rowDa) :: ([Value.ref ra], [Da.obj ro]) :: ([Value.ref ra], [Da.lst (rs.map rowDa)]) :: (vs.toList, rs.map rowDa) :: D1) := .tail _ (.head _)
  have hrv : (rvs.toList, rs.map rowDa) ∈ ((rvs.toList, rs.map rowDa) :: ([Value.ref ra], [Da.obj ro]) :: ([Value.ref ra], [Da.lst (rs.map rowDa)]) :: (vs.toList, rs.map rowDa) :: D1) := .head _
  have hvv : (vs.toList, rs.map rowDa) ∈ ((rvs.toList, rs.map rowDa) :: ([Value.ref ra], [Da.obj ro]) :: ([Value.ref ra], [Da.lst (rs.map rowDa)]) :: (vs.toList, rs.map rowDa) :: D1) := .tail _ (.tail _ (.tail _ (.head _)))
  have hD2 : ∀ f ∈ D1, f ∈ ((rvs.toList, rs.map rowDa) :: ([Value.ref ra], [Da.obj ro]) :: ([Value.ref ra], [Da.lst (rs.map rowDa)]) :: (vs.toList, rs.map rowDa) :: D1) := fun f hf' => .tail _ (.tail _ (.tail _ (.tail _ hf')))
  generalize ((rvs.toList, rs.map rowDa) :: ([Value.ref ra], [Da.obj ro]) :: ([Value.ref ra], [Da.lst (rs.map rowDa)]) :: (vs.toList, rs.map rowDa) :: D1) = D2 at *
  have hst : ([Value.ref st], [Da.lst (ss.map rowDa)]) ∈ D2 := hD2 _ (hD1 _ (.head _))
  have hx := hx.mono hD2
  have hok : ∀ r ∈ rs, RowOk r := fun r hr => (hfit r (hpm r hr)).ok
  have x1 : (Str.ofString ": ").length = 2 := by rfl
  have x2 : (Str.ofString "\r\n").length = 2 := by rfl
  have hjl : (Txt.join (sx "") (rs.map lineS)).length ≤ 100000 := by
    unfold textL at htl
    rw [len_app] at htl
    omega
  repeat walk_at "mi"
  refine m_newL hM (ds := []) (by walk_at "fact") (by walk_at "size") fun e₀ h t hM => ?_
  refine m_eqd (hA'.le (d' := 0) (by decide) (by decide)) hM (d₁ := .lst (rs.map rowDa)) (.tail _ hra) (.head _) (cm_rows hrk) cm_nil ?_
  rw [eqv_nil]
  have ene : (rs.map rowDa).isEmpty = false := by
    cases rs with
    | nil => exact absurd rfl hne
    | cons _ _ => rfl
  rw [ene]
  have hM := hM.sub (D' := D2) fun f hf' => .tail _ hf'
  repeat walk_at "mi"
  refine m_gm_join ?_
  repeat walk_at "mi"
  refine m_comp (fun _ => true) (fun r => .str (lineS r)) hM hrv (closure_none (by rfl)) fun p F hpf => ?_
  repeat walk_at "mi"
  refine m_compgo hpf hA'.h hM (hM.lst (.kept hro1 hro)) hrv (by omega) ?_ ?_ ?_
  · intro C₁ r v h₃ g₃ d₃ t os₃ m₃ E' hr hv hN hm kk
    exact r_if0 ⟨rfl, _, rfl⟩
  · intro C₁ r v h₃ g₃ d₃ t os₃ m₃ E' hr ht hv hN hm kk
    have hrf := hfit r (hpm r hr)
    have hl1 := hrf.l1
    have hl2 := hrf.l2
    repeat walk_at "mi"
    refine r_ld (compEnvIs hE (by rfl)) hN hm (by rfl) ?_
    repeat walk_at "mi"
    refine r_row0 hv fun tk => ?_
    repeat walk_at "mi"
    refine r_adds (by omega) fun _ _ => ?_
    repeat walk_at "mi"
    refine r_ld (compEnvIs hE (by rfl)) hN hm (by rfl) ?_
    repeat walk_at "mi"
    refine r_row1 hv fun tk => ?_
    refine r_adds (by rw [len_app]; omega) fun _ _ => ?_
    repeat walk_at "mi"
    refine r_adds (by rw [len_app, len_app]; omega) fun _ _ => ?_
    exact ⟨fun G _ => .str _ _, _, rfl⟩
  intro tl ys₂ h t hM
  have eft2 : rs.filter (fun _ => true) = rs := List.filter_eq_self.mpr fun _ _ => rfl
  rw [eft2] at hM
  have hM := hM.with (f := (ys₂.toList, (rs.map lineS).map Da.str)) fun G g => by rw [List.map_map]; exact g _ (.head _)
  repeat walk_at "mi"
  refine m_join hM (.own (.head _)) (.head _) (by
    have h1 := sum_le (fun r => (lineS r).length) 2002 rs fun r hr => by
      have hrf := hfit r (hpm r hr)
      have hl1 := hrf.l1
      have hl2 := hrf.l2
      show (lineS r).length ≤ _
      unfold lineS sx
      rw [len_app, len_app, len_app, x1, x2]
      omega
    have e1 : ((rs.map lineS).map (·.length)).sum = (rs.map fun r => (lineS r).length).sum := by rw [List.map_map]; rfl
    have e4 : (Str.ofString "").length = 0 := by rfl
    rw [e1, List.length_map, e4]
    omega) fun t' k => ?_
  have hM := (hM.pick (W' := [(lst, .lst vs)]) (by walk_at "pick")).sub (D' := D2) fun f hf' => .tail _ (.tail _ hf')
  repeat walk_at "mi"
  have etl : Txt.join (Str.ofString "") (rs.map lineS) ++ Str.ofString "\r\n" = textL rs := rfl
  refine m_adds hM (Nat.le_trans (Nat.add_le_add hjl (Nat.le_of_eq x2)) (by decide)) fun _ _ => ?_
  rw [etl]
  repeat walk_at "mi"
  obtain ⟨ty, fy, hiy, efy⟩ := hx.inst
  refine m_istr gd hM (hA'.le (d' := 0) (by decide) (by decide)) (hiy _) (hd_f_str _) (t_231 _) ?_
  refine c_str gd hM (((hA'.le (d' := 12) (u' := 52) (by decide) (by decide)).in1).in1) hx hvv (by omega) (fun r hr => ⟨Nat.le_trans (hfit r (hpm r hr)).l1 (by decide), Nat.le_trans (hfit r (hpm r hr)).l2 (by decide)⟩) fun u h t hM => ?_
  refine ⟨_, _, rfl, ?_⟩
  have ets : Txt.join ⟨#[13, 10]⟩ (rs.map lineOf ++ [⟨#[]⟩, ⟨#[]⟩]) = textS rs := rfl
  rw [ets, htxt]
  repeat walk_at "mi"
  rw [bne_self_eq_false]
  repeat walk_at "mi"
  refine c_right gd hM (hA'.le (by decide) (by decide)) hx hvv hra (by omega) hok hrk (fun r hr => hnm r (hpm r hr)) fun h t hM => ?_
  repeat walk_at "mi"
  obtain ⟨_, -, hsW, hsL, -, -⟩ := hM.items hst
  obtain ⟨svs₂, so, hso, hsz, hM⟩ := hM.open hst
  rw [List.length_map] at hsz
  have hLs := hM.lst (.kept (.tail _ (.head _)) hso)
  have hLs2 : LstIn [] ((svs₂.toList, ss.map rowDa) :: ([Value.ref st], [Da.obj so]) :: D2) st svs₂ := .kept (.tail _ (.head _)) hso
  have hra2 : ([Value.ref ra], [Da.lst (rs.map rowDa)]) ∈ ((svs₂.toList, ss.map rowDa) :: ([Value.ref st], [Da.obj so]) :: D2) := .tail _ (.tail _ hra)
  have hsv2 : (svs₂.toList, ss.map rowDa) ∈ ((svs₂.toList, ss.map rowDa) :: ([Value.ref st], [Da.obj so]) :: D2) := .head _
  have hD3 : ∀ f ∈ D2, f ∈ ((svs₂.toList, ss.map rowDa) :: ([Value.ref st], [Da.obj so]) :: D2) := fun f hf' => .tail _ (.tail _ hf')
  generalize ((svs₂.toList, ss.map rowDa) :: ([Value.ref st], [Da.obj so]) :: D2) = D3 at *
  have hM' := hM.know (l' := [(sx "text", .str (textL rs) _), (sx "rows", .ref ra), (sx "steps", .ref st)]) (by walk_at "kn")
  have hM' : Mst H0 B' G' L' _ ([(lst, .lst vs)] ++ []) D3 _ := hM'
  refine n_list hA'.h hE (by rfl) hM' hLs hsL (fun _ h => by cases h) (fun i l W' D' => l = [(sx "text", .str (textL rs) _), (sx "rows", .ref ra), (sx "steps", .ref st)] ∧ W' = [] ∧ D3 = D') ⟨rfl, rfl, rfl⟩ ?_ ?_
  · rintro i v l₁ W' D' B₁ G₁ h t E' T hv ⟨rfl, rfl, rfl⟩ hM back hT
    have hi : i < ss.length := by rw [← hsz, ← Array.length_toList]; exact (List.getElem?_eq_some_iff.mp hv).1
    have hsi : ss[i]? = some ss[i] := List.getElem?_eq_getElem hi
    generalize ss[i] = r at hsi
    have hrm := List.mem_of_getElem? hsi
    obtain ⟨v', hv', hM⟩ := hM.nth hsv2 (k := i) (d := rowDa r) (by rw [List.getElem?_map, hsi]; rfl)
    rw [hv] at hv'
    cases hv'
    obtain ⟨o₁, rfl⟩ := hM.isTup (ds := [.str r.1, .str r.2]) (.head _)
    have hrf := hfit r hrm
    obtain ⟨w2, w3, w4, a1, a2, a3, a4, a5, a6, a7, a8, a9, a10⟩ := hat r hrm
    repeat walk_at "mi"
    refine c_atend gd hM (hA'.le (by decide) (by decide)) (.tail _ hra2) (.head _) (by omega) (List.length_pos_iff.mpr hne) hrk hrf.rk hrf.ok ⟨hrf.l1, hrf.l2⟩ htl a1 a2 a3 a4 a5 a6 a7 a8 a9 a10 fun h t hM => ?_
    repeat walk_at "mi"
    have hM' := hM.know (l' := [(sx "one", .ref o₁), (sx "text", .str (textL rs) _), (sx "rows", .ref ra), (sx "steps", .ref st)]) (by walk_at "kn")
    have hM' : Mst H0 B₁ G₁ L' _ ([] ++ []) (([Value.ref o₁], [rowDa r]) :: D3) _ := hM'
    refine n_list hA'.h hE (by rfl) hM' (hM.lst (LstIn.up hLs2 fun f hf' => .tail _ hf')) hsL (fun _ h => by cases h) (fun i l W' D' => l = [(sx "one", .ref o₁), (sx "text", .str (textL rs) _), (sx "rows", .ref ra), (sx "steps", .ref st)] ∧ W' = [] ∧ ([Value.ref o₁], [rowDa r]) :: D3 = D') ⟨rfl, rfl, rfl⟩ ?_ ?_
    · rintro j v l₁ W' D' B₂ G₂ h t E' T₂ hv ⟨rfl, rfl, rfl⟩ hM back₂ hT₂
      have hj : j < ss.length := by rw [← hsz, ← Array.length_toList]; exact (List.getElem?_eq_some_iff.mp hv).1
      have hsj : ss[j]? = some ss[j] := List.getElem?_eq_getElem hj
      generalize ss[j] = k at hsj
      have hkm := List.mem_of_getElem? hsj
      obtain ⟨v', hv', hM⟩ := hM.nth (.tail _ hsv2) (k := j) (d := rowDa k) (by rw [List.getElem?_map, hsj]; rfl)
      rw [hv] at hv'
      cases hv'
      obtain ⟨o₂, rfl⟩ := hM.isTup (ds := [.str k.1, .str k.2]) (.head _)
      have hkf := hfit k hkm
      obtain ⟨v1, v2, b1, b2, b3, b4⟩ := hfo r hrm k hkm
      repeat walk_at "mi"
      refine c_found gd hM (hA'.le (by decide) (by decide)) (.tail _ (.tail _ hra2)) (.tail _ (.head _)) (.head _) (by omega) hrk hrf.rk hkf.rk ⟨hrf.l1, hrf.l2, hkf.l1, hkf.l2⟩ htl b1 b2 b3 b4 fun h t hM => ?_
      repeat walk_at "mi"
      exact m_tuf hT₂ hM ⟨rfl, rfl, rfl⟩ (by walk_at "kn") fun G g f hf' => g f (.tail _ hf')
    · rintro l₁ W' D' h t ⟨rfl, rfl, rfl⟩ hM
      have hM : Mst H0 B₁ G₁ L' _ [] _ _ := hM
      repeat walk_at "mi"
      exact m_tuf hT hM ⟨rfl, rfl, rfl⟩ (by walk_at "kn") fun G g f hf' => g f (.tail _ hf')
  · rintro l₁ W' D' h t ⟨rfl, rfl, rfl⟩ hM
    repeat walk_at "mi"
    exact hR _ _ _ _ _ _ hM fun hk => q _ _ hk
end
/-! ## the plain law: leads and names -/
theorem lead_mod (t : Nat) : leadAt t = leadAt (t % 72) := by
  unfold leadAt
  have e1 : t % 72 % 3 = t % 3 := by omega
  have e2 : t % 72 / 3 % 2 = t / 3 % 2 := by omega
  have e3 : t % 72 / 6 % 3 = t / 6 % 3 := by omega
  have e4 : t % 72 / 18 % 2 = t / 18 % 2 := by omega
  have e5 : t % 72 / 36 % 2 = t / 36 % 2 := by omega
  rw [e1, e2, e3, e4, e5]
theorem name_mod (k : Nat) : nameAt k = nameAt (k % 4) := by unfold nameAt; rw [Nat.mod_mod]
/-- the rows that a run meets -/
def Dom (r : Row) : Prop := ∃ k t, k < 4 ∧ t < 72 ∧ r = (nameAt k, leadAt t)
theorem dom_step (n : Nat) : Dom (stepRow n) := ⟨n % 4, n / 4 % 72, Nat.mod_lt _ (by decide), Nat.mod_lt _ (by decide), by unfold stepRow; rw [← name_mod n, ← lead_mod (n / 4)]⟩
theorem all_lt {n : Nat} {p : Nat → Bool} (h : (List.range n).all p = true) {i : Nat} (hi : i < n) : p i = true := List.all_eq_true.mp h i (List.mem_range.mpr hi)
def nmChk (x : Str) : Bool := decide (x.length ≤ 900) && (findsNone nameCode x && (findsNone nameCode (Txt.lower x) && (PyData.strOk x && (Txt.lower x == sx "a" || Txt.lower x == sx "b"))))
theorem nm_tab : (List.range 4).all (fun k => nmChk (nameAt k)) = true := by decide +kernel
def wsSm (s : WsS) : Bool := decide (s.b ≤ 1000) && (decide (s.n ≤ 1000) && (decide (s.nt ≤ 1000) && decide (s.count.length ≤ 1000)))
def wsSame (s o : WsS) : Bool := decide (s.b = o.b) && (decide (s.n = o.n) && (decide (s.nt = o.nt) && decide (s.count = o.count)))
def ldChk (x : Str) : Bool := decide (x.length ≤ 900) && (findsNone valueCode x && (PyData.strOk x && (wsSm (wsOf x) && wsSame (wsOf (x ++ xTab)) (wsOf x))))
theorem ld_tab : (List.range 72).all (fun t => ldChk (leadAt t)) = true := by decide +kernel
theorem wsSame_eq {s o : WsS} (h : wsSame s o = true) : s = o := by
  unfold wsSame at h
  simp only [Bool.and_eq_true, decide_eq_true_eq] at h
  obtain ⟨h1, h2, h3, h4⟩ := h
  cases s; cases o
  simp_all
theorem wsSm_fit {s : WsS} (h : wsSm s = true) : WsFit s := by
  unfold wsSm at h
  simp only [Bool.and_eq_true, decide_eq_true_eq] at h
  exact ⟨h.1, h.2.1, h.2.2.1, h.2.2.2⟩
theorem dom_facts {r : Row} (h : Dom r) : Fit r ∧ NameIn r ∧ wsOf (r.2 ++ xTab) = wsOf r.2 := by
  obtain ⟨k, t, hk, ht, rfl⟩ := h
  have hn : nmChk (nameAt k) = true := all_lt (p := fun k => nmChk (nameAt k)) nm_tab hk
  have hl : ldChk (leadAt t) = true := all_lt (p := fun k => ldChk (leadAt k)) ld_tab ht
  generalize nameAt k = x at *
  generalize leadAt t = y at *
  unfold nmChk at hn
  unfold ldChk at hl
  simp only [Bool.and_eq_true, decide_eq_true_eq, Bool.or_eq_true, beq_iff_eq] at hn hl
  obtain ⟨n1, n2, n3, n4, n5⟩ := hn
  obtain ⟨l1, l2, l3, l4, l5⟩ := hl
  have e := wsSame_eq l5
  refine ⟨⟨⟨⟨Nat.le_trans n1 (by decide), n2, n3⟩, l2, Nat.le_trans l1 (by decide)⟩, ⟨n4, l3⟩, n1, l1, wsSm_fit l4, ?_⟩, n5, e⟩
  rw [e]; exact wsSm_fit l4
def pairOk (x y : Str) : Bool := (wsLess (wsOf x) (wsOf y) == ((List.range 6).filter (colsGe x y)).isEmpty) && (decide ((wsOf x).count = (wsOf y).count ∧ (wsOf x).b = (wsOf y).b) == decide (cols x = cols y))
theorem pair_tab : (List.range 72).all (fun a => (List.range 72).all fun b => pairOk (leadAt a) (leadAt b)) = true := by decide +kernel
theorem dom_pair {r s : Row} (h : Dom r) (h' : Dom s) : wsLess (wsOf r.2) (wsOf (s.2 ++ xTab)) = ((List.range 6).filter (colsGe r.2 s.2)).isEmpty ∧ (((wsOf r.2).count = (wsOf (s.2 ++ xTab)).count ∧ (wsOf r.2).b = (wsOf (s.2 ++ xTab)).b) ↔ cols r.2 = cols s.2) := by
  rw [(dom_facts h').2.2]
  obtain ⟨k, t, hk, ht, rfl⟩ := h
  obtain ⟨k', t', hk', ht', rfl⟩ := h'
  have hp : pairOk (leadAt t) (leadAt t') = true := all_lt (all_lt (p := fun a => (List.range 72).all fun b => pairOk (leadAt a) (leadAt b)) pair_tab ht) ht'
  unfold pairOk at hp
  rw [Bool.and_eq_true, beq_iff_eq, beq_iff_eq, decide_eq_decide] at hp
  exact hp
theorem put_kept {rs : List Row} {s : Row} (hr : ∀ r ∈ rs, Dom r) (hs : Dom s) : putF rs s.1 s.2 = keptF rs s.1 s.2 := by
  have hh : (sameRows rs s.1).head? = rs.find? fun r => Txt.lower r.1 == Txt.lower s.1 := by unfold sameRows; rw [List.head?_filter]
  have hg : getRows rs (Txt.lower s.1) = (sameRows rs s.1).head?.map (·.2) := by rw [hh]; rfl
  unfold putF keptF
  rw [hg]
  cases e : (sameRows rs s.1).getLast? with
  | none =>
    rw [List.getLast?_eq_none_iff] at e
    rw [e]; rfl
  | some l =>
    have hl : l ∈ rs := by
      have h0 := List.mem_of_getLast? e
      unfold sameRows at h0
      exact (List.mem_filter.mp h0).1
    cases e2 : (sameRows rs s.1).head? with
    | none =>
      rw [List.head?_eq_none_iff] at e2
      rw [e2] at e; cases e
    | some f =>
      obtain ⟨h1, h2⟩ := dom_pair (hr _ hl) hs
      show (if wsLess (wsOf l.2) (wsOf (s.2 ++ xTab)) then _ else _) = (if ((List.range 6).filter (colsGe l.2 s.2)).isEmpty then _ else _)
      rw [h1]
      by_cases hc : ((List.range 6).filter (colsGe l.2 s.2)).isEmpty = true
      · rw [if_pos hc, if_pos hc]
      · rw [if_neg hc, if_neg hc]
        by_cases hd : cols l.2 = cols s.2
        · rw [if_pos (h2.mpr hd), if_pos hd]; rfl
        · rw [if_neg (fun x => hd (h2.mp x)), if_neg hd]
          have ef : offRows rs (Txt.lower s.1) = rs.filter (fun r => !(sameRows rs s.1).contains r) := by
            unfold offRows
            refine List.filter_congr fun r hr => ?_
            have : (sameRows rs s.1).contains r = (Txt.lower r.1 == Txt.lower s.1) := by
              rw [Bool.eq_iff_iff, List.contains_iff_mem]
              unfold sameRows
              rw [List.mem_filter]
              exact ⟨fun h => h.2, fun h => ⟨hr, h⟩⟩
            rw [this]; rfl
          rw [ef]
theorem kept_ne (rs : List Row) (nm ld : Str) : (keptF rs nm ld).1 ≠ [] := by
  unfold keptF
  split
  · rename_i l f h1 h2
    split
    · simp
    · split
      · intro h
        have h : rs = [] := h
        rw [h] at h1; cases h1
      · simp
  · simp
/-! ## the plain law: texts as lists of codes -/
abbrev tl (x : Str) : List Nat := x.cps.toList
theorem len_tl (x : Str) : x.length = (tl x).length := by unfold Str.length tl; rw [Array.length_toList]
theorem tl_app (x y : Str) : tl (x ++ y) = tl x ++ tl y := by show (x.cps ++ y.cps).toList = _; rw [Array.toList_append]
theorem tl_inj {x y : Str} (h : tl x = tl y) : x = y := PySem.Str.ext' (Array.toList_inj.mp h)
theorem take_pre (l y : List Nat) : (l.take y.length == y) = y.isPrefixOf l := by
  rw [Bool.eq_iff_iff, beq_iff_eq, List.isPrefixOf_iff_prefix, List.prefix_iff_eq_take]
  exact eq_comm
theorem subAt_tl (x y : Str) (i : Nat) : Builtin.Str.subAt x y i = (tl y).isPrefixOf ((tl x).drop i) := by
  rw [StrLaws.subAt_eq, len_tl y, take_pre]
theorem pre_len {y l : List Nat} (h : y.isPrefixOf l = true) : y.length ≤ l.length := (List.isPrefixOf_iff_prefix.mp h).length_le
theorem starts_tl (x y : Str) : Txt.startswith x y = (tl y).isPrefixOf (tl x) := by
  unfold Txt.startswith
  rw [subAt_tl, List.drop_zero, Bool.eq_iff_iff, Bool.and_eq_true, decide_eq_true_eq]
  refine ⟨fun h => h.2, fun h => ⟨?_, h⟩⟩
  have := pre_len h
  rw [len_tl, len_tl]; omega
theorem ends_tl (x y : Str) : Txt.endswith x y = (tl y).isSuffixOf (tl x) := by
  unfold Txt.endswith
  rw [subAt_tl, Bool.eq_iff_iff, Bool.and_eq_true, decide_eq_true_eq, List.isSuffixOf_iff_suffix, List.isPrefixOf_iff_prefix, List.suffix_iff_eq_drop, ← len_tl, ← len_tl]
  constructor
  · intro ⟨h1, h2⟩
    have h3 : ((tl x).drop (x.length - y.length)).length = (tl y).length := by rw [List.length_drop, ← len_tl, ← len_tl]; omega
    exact h2.eq_of_length h3.symm
  · intro h
    have h3 : ((tl x).drop (x.length - y.length)).length = (tl y).length := by rw [← h]
    rw [List.length_drop, ← len_tl, ← len_tl] at h3
    by_cases hy : y.length = 0
    · exact ⟨by omega, by rw [← h]; exact List.prefix_refl _⟩
    · exact ⟨by omega, by rw [← h]; exact List.prefix_refl _⟩
/-- the rest behind the first place of a text -/
def cutAt (y : List Nat) : List Nat → Option (List Nat)
  | [] => if y.isPrefixOf [] then some [] else none
  | c :: x => if y.isPrefixOf (c :: x) then some ((c :: x).drop y.length) else cutAt y x
def emL : List (List Nat) → List Nat → Bool
  | [], _ => true
  | w :: r, x => match cutAt w x with | some x' => emL r x' | none => false
theorem cut_spec (y : List Nat) : ∀ x : List Nat, (cutAt y x = none ∧ ∀ i, i ≤ x.length → y.isPrefixOf (x.drop i) = false) ∨ ∃ i, i ≤ x.length ∧ cutAt y x = some (x.drop (i + y.length)) ∧ y.isPrefixOf (x.drop i) = true ∧ ∀ k, k < i → y.isPrefixOf (x.drop k) = false
  | [] => by
    unfold cutAt
    cases h : y.isPrefixOf ([] : List Nat) with
    | true => exact .inr ⟨0, by simp, by simp, by simpa using h, fun k hk => absurd hk (Nat.not_lt_zero _)⟩
    | false => exact .inl ⟨by simp, fun i _ => by rw [List.drop_nil]; exact h⟩
  | c :: x => by
    unfold cutAt
    cases h : y.isPrefixOf (c :: x) with
    | true => exact .inr ⟨0, by simp, by simp, by simpa using h, fun k hk => absurd hk (Nat.not_lt_zero _)⟩
    | false =>
      rw [if_neg (by decide)]
      rcases cut_spec y x with ⟨h1, h2⟩ | ⟨i, h1, h2, h3, h4⟩
      · refine .inl ⟨h1, fun i hi => ?_⟩
        cases i with
        | zero => exact h
        | succ j => exact h2 j (by simpa using hi)
      · refine .inr ⟨i + 1, by simpa using h1, ?_, h3, fun k hk => ?_⟩
        · rw [h2, show i + 1 + y.length = (i + y.length) + 1 by omega]; rfl
        · cases k with
          | zero => exact h
          | succ j => exact h4 j (by omega)
theorem at_tl (x y : Str) (i : Nat) : StrLaws.At x y x.length i ↔ i ≤ x.length ∧ (tl y).isPrefixOf ((tl x).drop i) = true := by
  unfold StrLaws.At
  rw [subAt_tl]
  constructor
  · intro ⟨h1, h2⟩; exact ⟨by omega, h2⟩
  · intro ⟨h1, h2⟩
    have := pre_len h2
    rw [List.length_drop, ← len_tl, ← len_tl] at this
    exact ⟨by omega, h2⟩
theorem emLoop_is (got : Str) : ∀ (ws : List Str) (s : Nat), s ≤ got.length → emLoop got ws s got.length = emL (ws.map tl) ((tl got).drop s)
  | [], _, _ => rfl
  | w :: r, s, hs => by
    rw [emLoop_cons, List.map_cons, emL]
    have hl : ((tl got).drop s).length = got.length - s := by rw [List.length_drop, ← len_tl]
    rcases StrLaws.occ_head_from got w s 1 (Nat.le_refl _) with ⟨e, hn⟩ | ⟨i, r', e, hi, hA, hn⟩
    · rw [e]
      rcases cut_spec (tl w) ((tl got).drop s) with ⟨h1, _⟩ | ⟨i, h1, h2, h3, _⟩
      · rw [h1]
      · refine absurd ((at_tl got w (s + i)).mpr ⟨by omega, ?_⟩) (hn (s + i) (by omega))
        rw [← List.drop_drop]; exact h3
    · rw [e]
      obtain ⟨hA1, hA2⟩ := (at_tl got w i).mp hA
      have hA3 : (tl w).isPrefixOf (((tl got).drop s).drop (i - s)) = true := by rw [List.drop_drop, show s + (i - s) = i by omega]; exact hA2
      have hw : i + w.length ≤ got.length := hA.1
      rcases cut_spec (tl w) ((tl got).drop s) with ⟨_, h2⟩ | ⟨j, h1, h2, h3, h4⟩
      · rw [h2 (i - s) (by omega)] at hA3; cases hA3
      · have e1 : j = i - s := by
          rcases Nat.lt_trichotomy j (i - s) with h | h | h
          · refine absurd ((at_tl got w (s + j)).mpr ⟨by omega, ?_⟩) (hn (s + j) (by omega) (by omega))
            rw [← List.drop_drop]; exact h3
          · exact h
          · rw [h4 _ h] at hA3; cases hA3
        rw [h2]
        show emLoop got r (i + w.length) got.length = emL (r.map tl) _
        rw [emLoop_is got r (i + w.length) hw, List.drop_drop, ← len_tl, show s + (j + w.length) = i + w.length by omega]
theorem cut_nil (x : List Nat) : cutAt [] x = some x := by cases x <;> rfl
theorem cut_skip {h : Nat} {y X : List Nat} : ∀ {u : List Nat}, h ∉ u → cutAt (h :: y) (u ++ X) = cutAt (h :: y) X
  | [], _ => rfl
  | a :: u, hn => by
    have h1 : h ≠ a := fun e => hn (by rw [e]; exact .head _)
    have h2 : h ∉ u := fun e => hn (.tail _ e)
    show (if (h == a && y.isPrefixOf (u ++ X)) then _ else cutAt (h :: y) (u ++ X)) = _
    rw [beq_false_of_ne h1, Bool.false_and, if_neg (by decide)]
    exact cut_skip h2
theorem pre_term {z : Nat} {u' v' : List Nat} : ∀ {u v : List Nat}, z ∉ u → z ∉ v → (u ++ z :: u').isPrefixOf (v ++ z :: v') = (decide (u = v) && u'.isPrefixOf v')
  | [], [], _, _ => by simp [List.isPrefixOf]
  | [], b :: v, _, h => by
    have : z ≠ b := fun e => h (by rw [e]; exact .head _)
    simp [List.isPrefixOf, this]
  | a :: u, [], h, _ => by
    have : a ≠ z := fun e => h (by rw [e]; exact .head _)
    simp [List.isPrefixOf, this]
  | a :: u, b :: v, h, h' => by
    have ih := pre_term (u' := u') (v' := v') (fun e => h (.tail _ e) : z ∉ u) (fun e => h' (.tail _ e) : z ∉ v)
    show (a == b && (u ++ z :: u').isPrefixOf (v ++ z :: v')) = _
    rw [ih]
    by_cases e : a = b
    · by_cases e2 : u = v <;> simp [e, e2]
    · simp [e]
/-! ## the plain law: lines -/
def vT (u : List Nat) : List Nat := 58 :: 32 :: (u ++ [13, 10])
structure Sh (r : Row) (c : Nat) : Prop where
  nm : tl r.1 = [c]
  lt : c = 97 ∨ c = 65 ∨ c = 98 ∨ c = 66
  sp : ∀ a ∈ tl r.2, a = 32 ∨ a = 9
theorem lead_sp : (List.range 72).all (fun t => (tl (leadAt t)).all fun a => a == 32 || a == 9) = true := by decide +kernel
theorem dom_sh {r : Row} (h : Dom r) : ∃ c, Sh r c := by
  obtain ⟨k, t, hk, ht, rfl⟩ := h
  have hl : (tl (leadAt t)).all (fun a => a == 32 || a == 9) = true := all_lt (p := fun t => (tl (leadAt t)).all fun a => a == 32 || a == 9) lead_sp ht
  have hs : ∀ a ∈ tl (leadAt t), a = 32 ∨ a = 9 := fun a ha => by
    have := List.all_eq_true.mp hl a ha
    simpa using this
  match k, hk with
  | 0, _ => exact ⟨97, rfl, .inl rfl, hs⟩
  | 1, _ => exact ⟨65, rfl, .inr (.inl rfl), hs⟩
  | 2, _ => exact ⟨98, rfl, .inr (.inr (.inl rfl)), hs⟩
  | 3, _ => exact ⟨66, rfl, .inr (.inr (.inr rfl)), hs⟩
theorem tl_val (r : Row) : tl (valS r) = vT (tl r.2) := by
  unfold valS
  rw [tl_app, tl_app]
  show ([58, 32] ++ tl r.2) ++ [13, 10] = _
  unfold vT
  simp
theorem tl_line (r : Row) : tl (lineS r) = tl r.1 ++ vT (tl r.2) := by
  unfold lineS
  rw [tl_app, tl_app, tl_app]
  show ((tl r.1 ++ [58, 32]) ++ tl r.2) ++ [13, 10] = _
  unfold vT
  simp
theorem Sh.line {r : Row} {c : Nat} (s : Sh r c) : tl (lineS r) = c :: vT (tl r.2) := by rw [tl_line, s.nm]; rfl
theorem Sh.no {r : Row} {c n : Nat} (s : Sh r c) (h1 : n ≠ 32) (h2 : n ≠ 9) : n ∉ tl r.2 := fun h => by rcases s.sp n h with e | e <;> contradiction
theorem Sh.eq_iff {r a : Row} {c d : Nat} (s : Sh r c) (s' : Sh a d) : r = a ↔ c = d ∧ tl r.2 = tl a.2 := by
  constructor
  · intro h
    subst h
    have := s.nm.symm.trans s'.nm
    injection this with h1
    exact ⟨h1, rfl⟩
  · intro ⟨h1, h2⟩
    have e1 : r.1 = a.1 := tl_inj (by rw [s.nm, s'.nm, h1])
    have e2 : r.2 = a.2 := tl_inj h2
    exact Prod.ext e1 e2
theorem vT_pre {u v X : List Nat} (hu : 13 ∉ u) (hv : 13 ∉ v) : (vT u).isPrefixOf (vT v ++ X) = decide (u = v) := by
  show ((58 == 58) && ((32 == 32) && (u ++ [13, 10]).isPrefixOf ((v ++ [13, 10]) ++ X))) = _
  rw [List.append_assoc]
  show (true && (true && (u ++ 13 :: [10]).isPrefixOf (v ++ 13 :: (10 :: X)))) = _
  rw [pre_term hu hv]
  simp [List.isPrefixOf]
theorem Sh.pre {r a : Row} {c d : Nat} (s : Sh r c) (s' : Sh a d) (X : List Nat) : (tl (lineS r)).isPrefixOf (tl (lineS a) ++ X) = decide (r = a) := by
  rw [s.line, s'.line]
  show ((c == d) && (vT (tl r.2)).isPrefixOf (vT (tl a.2) ++ X)) = _
  rw [vT_pre (s.no (by decide) (by decide)) (s'.no (by decide) (by decide)), Bool.eq_iff_iff, Bool.and_eq_true, beq_iff_eq, decide_eq_true_eq, decide_eq_true_eq]
  exact (s.eq_iff s').symm
theorem Sh.val_in {r a : Row} {c d : Nat} (s : Sh r c) (s' : Sh a d) (X : List Nat) : cutAt (tl (valS r)) (tl (lineS a) ++ X) = if a.2 = r.2 then some X else cutAt (tl (valS r)) X := by
  rw [tl_val, s'.line]
  have hd : (58 : Nat) ∉ [d] := by
    rcases s'.lt with h | h | h | h <;> subst h <;> decide
  show cutAt (58 :: _) ([d] ++ (vT (tl a.2) ++ X)) = _
  rw [cut_skip hd]
  show (if (vT (tl r.2)).isPrefixOf (vT (tl a.2) ++ X) then some ((vT (tl a.2) ++ X).drop (vT (tl r.2)).length) else cutAt (58 :: _) ((32 :: (tl a.2 ++ [13, 10])) ++ X)) = _
  rw [vT_pre (s.no (by decide) (by decide)) (s'.no (by decide) (by decide))]
  by_cases h : a.2 = r.2
  · rw [if_pos h, h]
    simp
  · have h' : ¬ tl r.2 = tl a.2 := fun e => h (tl_inj e).symm
    rw [if_neg h, decide_eq_false h', if_neg (by decide)]
    refine cut_skip ?_
    intro hm
    rcases List.mem_cons.mp hm with e | hm
    · cases e
    · rcases List.mem_append.mp hm with hm | hm
      · exact s'.no (by decide) (by decide) hm
      · simp at hm
theorem Sh.line_in {r a : Row} {c d : Nat} (s : Sh r c) (s' : Sh a d) (X : List Nat) : cutAt (tl (lineS r)) (tl (lineS a) ++ X) = if r = a then some X else cutAt (tl (lineS r)) X := by
  have hp := s.pre s' X
  by_cases h : r = a
  · rw [if_pos h]
    subst h
    rw [s.line] at hp ⊢
    show (if (c :: vT (tl r.2)).isPrefixOf ((c :: vT (tl r.2)) ++ X) then some (((c :: vT (tl r.2)) ++ X).drop (c :: vT (tl r.2)).length) else _) = _
    rw [hp, decide_eq_true rfl, if_pos rfl, List.drop_left]
  · rw [if_neg h]
    rw [decide_eq_false h] at hp
    rw [s.line, s'.line] at hp ⊢
    show (if (c :: vT (tl r.2)).isPrefixOf ((d :: vT (tl a.2)) ++ X) then _ else cutAt (c :: vT (tl r.2)) (vT (tl a.2) ++ X)) = _
    rw [hp, if_neg (by decide)]
    refine cut_skip ?_
    have hc : c ≠ 58 ∧ c ≠ 32 ∧ c ≠ 13 ∧ c ≠ 10 ∧ c ≠ 9 := by rcases s.lt with h | h | h | h <;> subst h <;> decide
    intro hm
    rcases List.mem_cons.mp hm with e | hm
    · exact hc.1 e
    · rcases List.mem_cons.mp hm with e | hm
      · exact hc.2.1 e
      · rcases List.mem_append.mp hm with hm | hm
        · exact s'.no hc.2.1 hc.2.2.2.2 hm
        · simp at hm
          rcases hm with e | e
          · exact hc.2.2.1 e
          · exact hc.2.2.2.1 e
/-- the codes of a table's text -/
def flat : List Row → List Nat
  | [] => [13, 10]
  | a :: rs => tl (lineS a) ++ flat rs
theorem tl_sjoin : ∀ l : List Str, tl (Str.join (sx "") l) = (l.map tl).flatten
  | [] => rfl
  | [x] => by simp [Str.join]
  | x :: y :: l => by
    have ih := tl_sjoin (y :: l)
    show tl ((x ++ sx "") ++ Str.join (sx "") (y :: l)) = _
    rw [tl_app, tl_app, ih]
    show (tl x ++ []) ++ _ = _
    simp
theorem flat_eq : ∀ rs : List Row, flat rs = (rs.map fun r => tl (lineS r)).flatten ++ [13, 10]
  | [] => rfl
  | a :: rs => by rw [flat, flat_eq rs, List.map_cons, List.flatten_cons, List.append_assoc]
theorem tl_textL (rs : List Row) : tl (textL rs) = flat rs := by
  unfold textL Txt.join
  rw [tl_app, StrLaws.glued_eq_join, tl_sjoin, flat_eq, List.map_map]
  rfl
theorem tl_lineOf (r : Row) : tl (lineS r) = tl (lineOf r) ++ [13, 10] := by
  unfold lineOf lineS
  rw [tl_app, tl_app, tl_app, tl_app, tl_app]
  rfl
theorem tl_textS (rs : List Row) : tl (textS rs) = flat rs := by
  unfold textS Txt.join
  rw [StrLaws.glued_eq_join]
  induction rs with
  | nil => rfl
  | cons a rs ih =>
    obtain ⟨y, l, e⟩ : ∃ y l, rs.map lineOf ++ [(⟨#[]⟩ : Str), ⟨#[]⟩] = y :: l := by
      cases rs with
      | nil => exact ⟨_, _, rfl⟩
      | cons b rs => exact ⟨_, _, rfl⟩
    rw [List.map_cons, List.cons_append, e]
    rw [e] at ih
    show tl ((lineOf a ++ _) ++ Str.join _ (y :: l)) = _
    rw [tl_app, tl_app, ih, flat, tl_lineOf]
theorem text_eq (rs : List Row) : textS rs = textL rs := tl_inj (by rw [tl_textS, tl_textL])
/-! ## the plain law: what the matcher answers -/
def aboveG : List Row → Row → Row → Bool
  | [], _, _ => false
  | a :: rs, r, k => if a.2 = r.2 then rs.contains k else aboveG rs r k
theorem aboveG_mem : ∀ {rs : List Row} {r k : Row}, aboveG rs r k = true → k ∈ rs
  | a :: rs, r, k, h => by
    unfold aboveG at h
    split at h
    · exact .tail _ (List.contains_iff_mem.mp h)
    · exact .tail _ (aboveG_mem h)
theorem above_cons (a : Row) (rs : List Row) (r k : Row) : aboveF (a :: rs) r k = ((decide (a.2 = r.2) && rs.contains k) || aboveF rs r k) := by
  unfold aboveF
  rw [List.length_cons, List.range_succ_eq_map, List.any_cons, List.any_map]
  rfl
theorem above_eq : ∀ (rs : List Row) (r k : Row), aboveF rs r k = aboveG rs r k
  | [], _, _ => rfl
  | a :: rs, r, k => by
    rw [above_cons, above_eq rs r k, aboveG]
    by_cases h : a.2 = r.2
    · rw [if_pos h, decide_eq_true h, Bool.true_and, Bool.eq_iff_iff, Bool.or_eq_true]
      refine ⟨fun h => ?_, .inl⟩
      rcases h with h | h
      · exact h
      · exact List.contains_iff_mem.mpr (aboveG_mem h)
    · rw [if_neg h, decide_eq_false h, Bool.false_and, Bool.false_or]
theorem line_where {r : Row} {c : Nat} (s : Sh r c) : ∀ rs : List Row, (∀ a ∈ rs, Dom a) → (cutAt (tl (lineS r)) (flat rs)).isSome = rs.contains r
  | [], _ => by
    have hc : c ∉ [13, 10] := by rcases s.lt with h | h | h | h <;> subst h <;> decide
    rw [s.line]
    show (cutAt (c :: vT (tl r.2)) ([13, 10] ++ [])).isSome = _
    rw [cut_skip hc]; rfl
  | a :: rs, hd => by
    obtain ⟨d, s'⟩ := dom_sh (hd a (.head _))
    rw [flat, s.line_in s', List.contains_cons]
    by_cases h : r = a
    · rw [if_pos h, beq_iff_eq.mpr h]; rfl
    · rw [if_neg h, beq_false_of_ne h, Bool.false_or]
      exact line_where s rs fun a ha => hd a (.tail _ ha)
theorem above_where {r k : Row} {c e : Nat} (s : Sh r c) (s2 : Sh k e) : ∀ rs : List Row, (∀ a ∈ rs, Dom a) → emL [[], tl (valS r), [], tl (lineS k), []] (flat rs) = aboveG rs r k := by
  have key : ∀ x, emL [[], tl (valS r), [], tl (lineS k), []] x = match cutAt (tl (valS r)) x with | some X => (cutAt (tl (lineS k)) X).isSome | none => false := by
    intro x
    simp only [emL, cut_nil]
    cases cutAt (tl (valS r)) x with
    | none => rfl
    | some X =>
      show (match cutAt (tl (lineS k)) X with | some x' => true | none => false) = (cutAt (tl (lineS k)) X).isSome
      cases cutAt (tl (lineS k)) X <;> rfl
  intro rs
  rw [key]
  induction rs with
  | nil =>
    intro _
    have e0 : cutAt (tl (valS r)) (flat []) = none := by
      rw [tl_val]
      show cutAt (58 :: 32 :: (tl r.2 ++ [13, 10])) ([13, 10] ++ []) = _
      rw [cut_skip (by decide)]; rfl
    rw [e0]; rfl
  | cons a rs ih =>
    intro hd
    obtain ⟨d, s'⟩ := dom_sh (hd a (.head _))
    rw [flat, s.val_in s', aboveG]
    by_cases h : a.2 = r.2
    · rw [if_pos h, if_pos h]
      exact line_where s2 rs fun a ha => hd a (.tail _ ha)
    · rw [if_neg h, if_neg h]
      exact ih fun a ha => hd a (.tail _ ha)
theorem head_where {r : Row} {c : Nat} (s : Sh r c) {rs : List Row} (hd : ∀ a ∈ rs, Dom a) (hn : rs ≠ []) : (tl (lineS r)).isPrefixOf (flat rs) = decide (rs.head? = some r) := by
  cases rs with
  | nil => exact absurd rfl hn
  | cons a rs =>
    obtain ⟨d, s'⟩ := dom_sh (hd a (.head _))
    rw [flat, s.pre s', decide_eq_decide, List.head?_cons]
    exact ⟨fun h => by rw [h], fun h => by injection h with h; exact h.symm⟩
theorem flat_snoc : ∀ (rs : List Row) (a : Row), flat (rs ++ [a]) = (rs.map fun r => tl (lineS r)).flatten ++ (tl (lineS a) ++ [13, 10])
  | rs, a => by rw [flat_eq, List.map_append, List.flatten_append]; simp
theorem line_rev {r : Row} {c : Nat} (s : Sh r c) : (tl (lineS r) ++ [13, 10]).reverse = 10 :: 13 :: 10 :: 13 :: (((tl r.2).reverse ++ [32]) ++ 58 :: [c]) := by
  rw [s.line]
  unfold vT
  simp
theorem last_where {r : Row} {c : Nat} (s : Sh r c) {rs : List Row} (hd : ∀ a ∈ rs, Dom a) (hn : rs ≠ []) : (tl (lineS r ++ sx "\r\n")).isSuffixOf (flat rs) = decide (rs.getLast? = some r) := by
  obtain ⟨as, a, rfl⟩ : ∃ as a, rs = as ++ [a] := ⟨rs.dropLast, rs.getLast hn, (List.dropLast_concat_getLast hn).symm⟩
  obtain ⟨d, s'⟩ := dom_sh (hd a (by simp))
  have e1 : tl (lineS r ++ sx "\r\n") = tl (lineS r) ++ [13, 10] := by rw [tl_app]; rfl
  rw [e1, flat_snoc]
  unfold List.isSuffixOf
  generalize (as.map fun r => tl (lineS r)).flatten = I
  have hI : (I ++ (tl (lineS a) ++ [13, 10])).reverse = (tl (lineS a) ++ [13, 10]).reverse ++ I.reverse := List.reverse_append
  rw [hI, line_rev s, line_rev s']
  generalize I.reverse = X
  have h1 : (58 : Nat) ∉ (tl r.2).reverse ++ [32] := by
    intro hm
    rcases List.mem_append.mp hm with hm | hm
    · exact s.no (by decide) (by decide) (List.mem_reverse.mp hm)
    · simp at hm
  have h2 : (58 : Nat) ∉ (tl a.2).reverse ++ [32] := by
    intro hm
    rcases List.mem_append.mp hm with hm | hm
    · exact s'.no (by decide) (by decide) (List.mem_reverse.mp hm)
    · simp at hm
  show ((10 == 10) && ((13 == 13) && ((10 == 10) && ((13 == 13) && (((tl r.2).reverse ++ [32]) ++ 58 :: [c]).isPrefixOf ((((tl a.2).reverse ++ [32]) ++ 58 :: [d]) ++ X))))) = _
  have e5 : (((tl a.2).reverse ++ [32]) ++ 58 :: [d]) ++ X = ((tl a.2).reverse ++ [32]) ++ 58 :: (d :: X) := by simp
  rw [e5]
  rw [pre_term h1 h2, List.getLast?_append, List.getLast?_singleton]
  show (true && (true && (true && (true && (decide _ && ((c == d) && (([] : List Nat).isPrefixOf X))))))) = decide (some a = some r)
  rw [show ([] : List Nat).isPrefixOf X = true by cases X <;> rfl]
  rw [Bool.eq_iff_iff]
  simp only [Bool.true_and, Bool.and_true, Bool.and_eq_true, decide_eq_true_eq, beq_iff_eq, Option.some.injEq]
  rw [eq_comm (a := a), s.eq_iff s']
  constructor
  · intro ⟨h1, h2⟩
    exact ⟨h2, List.reverse_inj.mp (List.append_cancel_right h1)⟩
  · intro ⟨h1, h2⟩
    exact ⟨by rw [h2], h1⟩
theorem flat_one {r : Row} {c : Nat} (s : Sh r c) {rs : List Row} (hd : ∀ a ∈ rs, Dom a) (hn : rs ≠ []) : (want5 r == textL rs) = decide (rs = [r]) := by
  have e1 : tl (want5 r) = flat [r] := by unfold want5; rw [tl_app]; rfl
  rw [Bool.eq_iff_iff, beq_iff_eq, decide_eq_true_eq]
  constructor
  · intro h
    have h : flat [r] = flat rs := by rw [← e1, h, tl_textL]
    cases rs with
    | nil => exact absurd rfl hn
    | cons a rs =>
      obtain ⟨d, s'⟩ := dom_sh (hd a (.head _))
      have hp := s.pre s' (flat rs)
      have hq : (tl (lineS r)).isPrefixOf (tl (lineS a) ++ flat rs) = true := by
        have h : tl (lineS r) ++ [13, 10] = tl (lineS a) ++ flat rs := h
        rw [← h, List.isPrefixOf_iff_prefix]
        exact List.prefix_append _ _
      rw [hq] at hp
      have hr : r = a := of_decide_eq_true hp.symm
      subst hr
      have h : tl (lineS r) ++ [13, 10] = tl (lineS r) ++ flat rs := h
      have h := List.append_cancel_left h
      cases rs with
      | nil => rfl
      | cons b rs =>
        obtain ⟨d', s''⟩ := dom_sh (hd b (.tail _ (.head _)))
        rw [flat, s''.line] at h
        injection h with h1 h2
        rcases s''.lt with h | h | h | h <;> subst h <;> cases h1
  · intro h
    subst h
    exact tl_inj (by rw [e1, tl_textL])
/-! ## the plain law: the pieces of a wanted text -/
def glue : List (List Nat) → List Nat
  | [] => []
  | [p] => p
  | p :: q :: r => p ++ 46 :: 46 :: 46 :: glue (q :: r)
theorem glue_le : ∀ {l : List (List Nat)} {p : List Nat}, p ∈ l → p.length ≤ (glue l).length
  | [q], p, h => by rw [List.mem_singleton.mp h]; exact Nat.le_refl _
  | q :: q' :: r, p, h => by
    rw [glue, List.length_append]
    rcases List.mem_cons.mp h with rfl | h
    · omega
    · have := glue_le h
      simp only [List.length_cons] at *
      omega
theorem dot_in {u Y v : List Nat} : ∀ {j : Nat}, j < u.length → (46 :: v).isPrefixOf ((u ++ Y).drop j) = true → 46 ∈ u := by
  intro j hj h
  rw [List.drop_append_of_le_length (by omega)] at h
  cases e : u.drop j with
  | nil => rw [List.drop_eq_nil_iff] at e; omega
  | cons x l =>
    rw [e] at h
    have h : ((46 == x) && v.isPrefixOf (l ++ Y)) = true := h
    rw [Bool.and_eq_true, beq_iff_eq] at h
    have hx : x ∈ u.drop j := by rw [e]; exact .head _
    rw [h.1]
    exact List.mem_of_mem_drop hx
theorem sub_tl (x : Str) {a b : Nat} {p : Str} (h : ((tl x).drop a).take (b - a) = tl p) : Builtin.Str.strSub x a b = p := tl_inj (by rw [tl, StrLaws.strSub_toList]; exact h)
open Builtin.Str StrLaws in
theorem parts_of (want : Str) : ∀ (ws : List Str) (a : Nat) (cuts : List Nat) (f : Nat), ws ≠ [] → (∀ p ∈ ws, 46 ∉ tl p) → a ≤ want.length → (tl want).drop a = glue (ws.map tl) → ChainG want dots want.length a cuts f → (∀ k, f ≤ k → ¬ At want dots want.length k) → partsFrom want 3 a cuts = ws
  | [], _, _, _, h, _, _, _, _, _ => absurd rfl h
  | [p], a, cuts, f, _, hn, ha, hg, hc, hf => by
    have hg : (tl want).drop a = tl p := hg
    have hp : 46 ∉ tl p := hn p (.head _)
    have hlen : ((tl want).drop a).length = want.length - a := by rw [List.length_drop, ← len_tl]
    cases cuts with
    | nil =>
      show [strSub want a want.length] = [p]
      rw [sub_tl want (p := p) (by rw [← hg]; exact List.take_of_length_le (by omega))]
    | cons c r =>
      obtain ⟨h1, h2, -⟩ := hc
      obtain ⟨h3, h4⟩ := (at_tl want dots c).mp h2
      have h5 : c + 3 ≤ want.length := h2.1
      refine absurd ?_ hp
      refine dot_in (Y := []) (j := c - a) (v := [46, 46]) (by rw [← hg, hlen]; omega) ?_
      rw [List.append_nil, ← hg, List.drop_drop, show a + (c - a) = c by omega]
      exact h4
  | p :: q :: ws, a, cuts, f, _, hn, ha, hg, hc, hf => by
    have hg : (tl want).drop a = tl p ++ 46 :: 46 :: 46 :: glue ((q :: ws).map tl) := hg
    have hp : 46 ∉ tl p := hn p (.head _)
    have hlen : ((tl want).drop a).length = want.length - a := by rw [List.length_drop, ← len_tl]
    have hlen2 : want.length - a = p.length + 3 + (glue ((q :: ws).map tl)).length := by
      rw [← hlen, hg, List.length_append, ← len_tl]; simp only [List.length_cons]; omega
    have hb : (tl want).drop (a + p.length) = 46 :: 46 :: 46 :: glue ((q :: ws).map tl) := by
      rw [← List.drop_drop, hg, len_tl, List.drop_left]
    have hAt : At want dots want.length (a + p.length) := (at_tl want dots _).mpr ⟨by omega, by rw [hb]; rfl⟩
    have hno : ∀ k, a ≤ k → k < a + p.length → ¬ At want dots want.length k := fun k h1 h2 h3 => by
      refine absurd ?_ hp
      refine dot_in (Y := 46 :: 46 :: 46 :: glue ((q :: ws).map tl)) (j := k - a) (v := [46, 46]) (by rw [← len_tl]; omega) ?_
      rw [← hg, List.drop_drop, show a + (k - a) = k by omega]
      exact ((at_tl want dots k).mp h3).2
    cases cuts with
    | nil =>
      have e : f = a := hc
      exact absurd hAt (hf _ (by omega))
    | cons c r =>
      obtain ⟨h1, h2, h3, h4⟩ := hc
      have e : c = a + p.length := by
        rcases Nat.lt_trichotomy c (a + p.length) with h | h | h
        · exact absurd h2 (hno c h1 h)
        · exact h
        · exact absurd hAt (h3 _ (by omega) h)
      subst e
      show strSub want a (a + p.length) :: partsFrom want 3 (a + p.length + 3) r = _
      rw [sub_tl want (p := p) (by rw [hg, show a + p.length - a = (tl p).length by rw [← len_tl]; omega, List.take_left]), parts_of want (q :: ws) (a + p.length + 3) r f (by simp) (fun x hx => hn x (.tail _ hx)) (by omega) (by rw [← List.drop_drop, hb]; rfl) h4 hf]
theorem no_dots {x : Str} (h : 46 ∉ tl x) : Txt.contains x dots = false := by
  cases e : Txt.contains x dots with
  | false => rfl
  | true =>
    unfold Txt.contains at e
    obtain ⟨i, h1, h2⟩ := (StrLaws.found_iff x dots).mp e
    have h1 : i + 3 ≤ x.length := h1
    rw [subAt_tl] at h2
    have := dot_in (u := tl x) (Y := []) (v := [46, 46]) (j := i) (by rw [← len_tl]; omega) (by rw [List.append_nil]; exact h2)
    exact absurd this h
theorem kind_ge (x : Str) : 1 ≤ Builtin.Str.strKind x := by
  unfold Builtin.Str.strKind
  split
  · omega
  · split <;> omega
theorem kind_dots : Builtin.Str.strKind dots = 1 := by decide +kernel
open Builtin.Str StrLaws in
theorem em_ok {want : Str} {ws : List Str} (h2 : 2 ≤ ws.length) (hw : ws.length ≤ 100) (hn : ∀ p ∈ ws, 46 ∉ tl p) (hg : tl want = glue (ws.map tl)) (hl : want.length ≤ 100000) : EmOk want ws := by
  obtain ⟨p, q, r, rfl⟩ : ∃ p q r, ws = p :: q :: r := by
    match ws, h2 with
    | p :: q :: r, _ => exact ⟨p, q, r, rfl⟩
  have hg' : tl want = tl p ++ 46 :: 46 :: 46 :: glue ((q :: r).map tl) := hg
  have hlen : want.length = p.length + 3 + (glue ((q :: r).map tl)).length := by
    rw [len_tl, hg', List.length_append, ← len_tl]; simp only [List.length_cons]; omega
  have hAt : At want dots want.length p.length := (at_tl want dots _).mpr ⟨by omega, by rw [hg', len_tl, List.drop_left]; rfl⟩
  obtain ⟨f, hc, hf⟩ := occ_tight want dots (by decide)
  refine ⟨?_, ?_, ?_, ?_, ⟨h2, hw⟩, hl, fun x hx => ?_⟩
  · exact (found_iff want dots).mpr ⟨_, hAt⟩
  · have := kind_ge want
    rw [kind_dots, decide_eq_false (by omega), decide_eq_false (by omega)]; rfl
  · cases e : occurrences want dots 0 want.length (want.length + 1) with
    | nil =>
      rw [e] at hc
      have e : f = 0 := hc
      exact absurd hAt (hf _ (by omega))
    | cons _ _ => rfl
  · rw [partsBetween_eq]
    exact parts_of want (p :: q :: r) 0 _ f (by simp) hn (by omega) hg hc hf
  · have := glue_le (List.mem_map_of_mem (f := tl) hx)
    rw [← hg, ← len_tl, ← len_tl] at this
    omega
/-! ## the plain law -/
theorem sx0 : tl (sx "") = [] := rfl
theorem tl_dots1 : tl (sx "...") = [46, 46, 46] := rfl
theorem tl_dots2 : tl (sx "......") = [46, 46, 46, 46, 46, 46] := rfl
theorem tl_crlf : tl (sx "\r\n") = [13, 10] := rfl
theorem vT_no {u : List Nat} (h : 46 ∉ u) : 46 ∉ vT u := by
  intro hm
  rcases List.mem_cons.mp hm with e | hm
  · cases e
  · rcases List.mem_cons.mp hm with e | hm
    · cases e
    · rcases List.mem_append.mp hm with hm | hm
      · exact h hm
      · simp at hm
theorem Sh.val_no {r : Row} {c : Nat} (s : Sh r c) : 46 ∉ tl (valS r) := by rw [tl_val]; exact vT_no (s.no (by decide) (by decide))
theorem Sh.line_no {r : Row} {c : Nat} (s : Sh r c) : 46 ∉ tl (lineS r) := by
  rw [s.line]
  intro hm
  rcases List.mem_cons.mp hm with e | hm
  · rcases s.lt with h | h | h | h <;> subst h <;> cases e
  · exact vT_no (s.no (by decide) (by decide)) hm
theorem Sh.end_no {r : Row} {c : Nat} (s : Sh r c) : 46 ∉ tl (lineS r ++ sx "\r\n") := by
  rw [tl_app, tl_crlf]
  intro hm
  rcases List.mem_append.mp hm with hm | hm
  · exact s.line_no hm
  · simp at hm
theorem nil_no : 46 ∉ tl (sx "") := by rw [sx0]; exact List.not_mem_nil
theorem two_no {a b : Str} (ha : 46 ∉ tl a) (hb : 46 ∉ tl b) : ∀ p ∈ [a, b], 46 ∉ tl p := fun p hp => by
  rcases List.mem_cons.mp hp with rfl | hp
  · exact ha
  · rw [List.mem_singleton.mp hp]; exact hb
theorem line_len {r : Row} {c : Nat} (s : Sh r c) (h : r.2.length ≤ 900) : (lineS r).length ≤ 905 ∧ 5 ≤ (lineS r).length ∧ (valS r).length ≤ 904 := by
  rw [len_tl, len_tl, s.line, tl_val]
  rw [len_tl] at h
  unfold vT
  simp only [List.length_cons, List.length_append, List.length_nil]
  omega
theorem crlf_len (x : Str) : (x ++ sx "\r\n").length = x.length + 2 := by rw [len_tl, tl_app, tl_crlf, List.length_append, ← len_tl]; rfl
theorem flat_len : ∀ rs : List Row, (∀ r ∈ rs, Dom r) → (flat rs).length ≤ 2 + rs.length * 905
  | [], _ => by decide
  | a :: rs, hd => by
    obtain ⟨c, s⟩ := dom_sh (hd a (.head _))
    have h1 := (line_len s (dom_facts (hd a (.head _))).1.l2).1
    have ih := flat_len rs fun r hr => hd r (.tail _ hr)
    rw [flat, List.length_append, ← len_tl, List.length_cons]
    omega
theorem ok_two {a b want : Str} (ha : 46 ∉ tl a) (hb : 46 ∉ tl b) (e : tl want = tl a ++ 46 :: 46 :: 46 :: tl b) (hl : want.length ≤ 100000) : EmOk want [a, b] :=
  em_ok (Nat.le_refl _) (by show 2 ≤ 100; omega) (two_no ha hb) e hl
theorem want2_ok {r k : Row} {c d : Nat} (s : Sh r c) (s' : Sh k d) (h1 : r.2.length ≤ 900) (h2 : k.2.length ≤ 900) : EmOk (want2 r k) [lineS r, lineS k ++ sx "\r\n"] := by
  have l1 := (line_len s h1).1
  have l2 := (line_len s' h2).1
  have e : tl (want2 r k) = tl (lineS r) ++ 46 :: 46 :: 46 :: tl (lineS k ++ sx "\r\n") := by
    unfold want2
    rw [tl_app, tl_app, tl_app, tl_app, tl_dots1]
    simp
  refine ok_two s.line_no s'.end_no e ?_
  rw [len_tl, e, List.length_append, ← len_tl]
  simp only [List.length_cons]
  rw [← len_tl, crlf_len]
  omega
theorem want3_ok {r : Row} {c : Nat} (s : Sh r c) (h1 : r.2.length ≤ 900) : EmOk (want3 r) [lineS r, sx ""] := by
  have l1 := (line_len s h1).1
  have e : tl (want3 r) = tl (lineS r) ++ 46 :: 46 :: 46 :: tl (sx "") := by
    unfold want3
    rw [tl_app, tl_dots1, sx0]
  refine ok_two s.line_no nil_no e ?_
  rw [len_tl, e, List.length_append, ← len_tl, sx0]
  simp only [List.length_cons, List.length_nil]
  omega
theorem want4_ok {r : Row} {c : Nat} (s : Sh r c) (h1 : r.2.length ≤ 900) : EmOk (want4 r) [sx "", lineS r ++ sx "\r\n"] := by
  have l1 := (line_len s h1).1
  have e : tl (want4 r) = tl (sx "") ++ 46 :: 46 :: 46 :: tl (lineS r ++ sx "\r\n") := by
    unfold want4
    rw [tl_app, tl_app, tl_app, tl_dots1, sx0]
    simp
  refine ok_two nil_no s.end_no e ?_
  rw [len_tl, e, sx0]
  simp only [List.length_cons, List.nil_append]
  rw [← len_tl, crlf_len]
  omega
theorem want1_ok {r k : Row} {c d : Nat} (s : Sh r c) (s' : Sh k d) (h1 : r.2.length ≤ 900) (h2 : k.2.length ≤ 900) : EmOk (want1 r k) [sx "", valS r, sx "", lineS k, sx ""] := by
  have l1 := (line_len s h1).2.2
  have l2 := (line_len s' h2).1
  have e : tl (want1 r k) = glue ([sx "", valS r, sx "", lineS k, sx ""].map tl) := by
    unfold want1
    rw [tl_app, tl_app, tl_app, tl_app, tl_dots1, tl_dots2]
    show _ = tl (sx "") ++ 46 :: 46 :: 46 :: (tl (valS r) ++ 46 :: 46 :: 46 :: (tl (sx "") ++ 46 :: 46 :: 46 :: (tl (lineS k) ++ 46 :: 46 :: 46 :: tl (sx ""))))
    rw [sx0]
    simp
  refine em_ok (by show 2 ≤ 5; omega) (by show 5 ≤ 100; omega) (fun p hp => ?_) e ?_
  · simp only [List.mem_cons, List.not_mem_nil, or_false] at hp
    rcases hp with rfl | rfl | rfl | rfl | rfl
    · exact nil_no
    · exact s.val_no
    · exact nil_no
    · exact s'.line_no
    · exact nil_no
  · unfold want1
    rw [len_tl, tl_app, tl_app, tl_app, tl_app, tl_dots1, tl_dots2]
    simp only [List.length_append, List.length_cons, List.length_nil]
    rw [← len_tl, ← len_tl]
    omega
theorem em_two {a b T : Str} (ha : a.length ≠ 0) (hb : b.length ≠ 0) : emW [a, b] T = (Txt.startswith T a && (Txt.endswith T b && decide (a.length + b.length ≤ T.length))) := by
  have e1 : emSt1 [a, b] T = if Txt.startswith T a then some (a.length, [b]) else none := by unfold emSt1; exact if_neg ha
  have e2 : emSt2 [b] T = if Txt.endswith T b then some (T.length - b.length, []) else none := by unfold emSt2; exact if_neg hb
  unfold emW
  rw [e1]
  cases Txt.startswith T a with
  | false => rfl
  | true =>
    show (match emSt2 [b] T with | none => false | some (e, l') => if a.length > e then false else emLoop T l' a.length e) = _
    rw [e2]
    cases h : Txt.endswith T b with
    | false => rfl
    | true =>
      have := ends_le h
      show (if a.length > T.length - b.length then false else true) = (true && (true && _))
      by_cases hh : a.length > T.length - b.length
      · rw [if_pos hh, decide_eq_false (by omega)]; rfl
      · rw [if_neg hh, decide_eq_true (by omega)]; rfl
theorem em_pre {a T : Str} (ha : a.length ≠ 0) : emW [a, sx ""] T = Txt.startswith T a := by
  have e1 : emSt1 [a, sx ""] T = if Txt.startswith T a then some (a.length, [sx ""]) else none := by unfold emSt1; exact if_neg ha
  have e2 : emSt2 [sx ""] T = some (T.length, [sx ""]) := by unfold emSt2; exact if_pos rfl
  unfold emW
  rw [e1]
  cases h : Txt.startswith T a with
  | false => rfl
  | true =>
    have hl : a.length ≤ T.length := by
      rw [starts_tl] at h
      have := pre_len h
      rw [len_tl, len_tl]; exact this
    show (match emSt2 [sx ""] T with | none => false | some (e, l') => if a.length > e then false else emLoop T l' a.length e) = _
    rw [e2]
    show (if a.length > T.length then false else emLoop T [sx ""] a.length T.length) = true
    rw [if_neg (by omega), emLoop_is _ _ _ hl]
    show emL [tl (sx "")] _ = true
    rw [sx0]
    simp only [emL, cut_nil]
theorem occ_empty (x : Str) (hi : Nat) : Builtin.Str.occurrences x (sx "") 0 hi 1 ≠ [] := by
  rw [StrLaws.occ_eq, Nat.sub_zero, List.range'_succ, List.forIn_cons]
  unfold StrLaws.occBody
  have h1 : Builtin.Str.subAt x (sx "") 0 = true := by rw [subAt_tl, sx0]; cases (tl x).drop 0 <;> rfl
  have h2 : ((((#[] : Array Nat), 0).fst.size < 1 ∧ ((#[] : Array Nat), 0).snd ≤ 0) ∧ 0 + (sx "").length ≤ hi) ∧ Builtin.Str.subAt x (sx "") 0 = true := ⟨⟨⟨by decide, Nat.le_refl _⟩, by rw [show (sx "").length = 0 from rfl]; omega⟩, h1⟩
  rw [if_pos h2]
  have h3 := StrLaws.occ_grows x (sx "") hi 1 (List.range' (0 + 1) hi) (((#[] : Array Nat).push 0), 0 + (sx "").length) (by simp)
  intro h
  exact h3 (Array.toList_eq_nil_iff.mp h)
theorem em_suf {b T : Str} (hb : b.length ≠ 0) : emW [sx "", b] T = Txt.endswith T b := by
  have e1 : emSt1 [sx "", b] T = some (0, [sx "", b]) := by unfold emSt1; exact if_pos rfl
  have e2 : emSt2 [sx "", b] T = if Txt.endswith T b then some (T.length - b.length, [sx ""]) else none := by unfold emSt2; exact if_neg hb
  unfold emW
  rw [e1]
  show (match emSt2 [sx "", b] T with | none => false | some (e, l') => if 0 > e then false else emLoop T l' 0 e) = _
  rw [e2]
  cases Txt.endswith T b with
  | false => rfl
  | true =>
    show (if 0 > T.length - b.length then false else emLoop T [sx ""] 0 (T.length - b.length)) = true
    rw [if_neg (by omega), emLoop_cons]
    cases h : Builtin.Str.occurrences T (sx "") 0 (T.length - b.length) 1 with
    | nil => exact absurd h (occ_empty T _)
    | cons _ _ => rfl
theorem em_mid (v l T : Str) : emW [sx "", v, sx "", l, sx ""] T = emL [[], tl v, [], tl l, []] (tl T) := by
  have e1 : emSt1 [sx "", v, sx "", l, sx ""] T = some (0, [sx "", v, sx "", l, sx ""]) := by unfold emSt1; exact if_pos rfl
  have e2 : emSt2 [sx "", v, sx "", l, sx ""] T = some (T.length, [sx "", v, sx "", l, sx ""]) := by unfold emSt2; exact if_pos rfl
  unfold emW
  rw [e1]
  show (match emSt2 [sx "", v, sx "", l, sx ""] T with | none => false | some (e, l') => if 0 > e then false else emLoop T l' 0 e) = _
  rw [e2]
  show (if 0 > T.length then false else emLoop T [sx "", v, sx "", l, sx ""] 0 T.length) = _
  rw [if_neg (by omega), emLoop_is _ _ _ (Nat.zero_le _), List.drop_zero]
  rfl
theorem both_where {r k : Row} {rs : List Row} (hr : Dom r) (hk : Dom k) (hd : ∀ a ∈ rs, Dom a) (hn : rs ≠ []) : emW [lineS r, lineS k ++ sx "\r\n"] (textL rs) = bothF rs r k := by
  obtain ⟨c, s⟩ := dom_sh hr
  obtain ⟨d, s'⟩ := dom_sh hk
  have l1 := line_len s (dom_facts hr).1.l2
  have l2 := line_len s' (dom_facts hk).1.l2
  rw [em_two (by omega) (by rw [crlf_len]; omega), starts_tl, ends_tl, tl_textL, head_where s hd hn, last_where s' hd hn, crlf_len, len_tl (textL rs), tl_textL]
  unfold bothF
  by_cases h1 : rs.head? = some r
  · by_cases h2 : rs.getLast? = some k
    · rw [decide_eq_true h1, decide_eq_true h2, Bool.true_and, Bool.true_and, Bool.true_and, Bool.and_true, decide_eq_decide]
      cases rs with
      | nil => exact absurd rfl hn
      | cons a rs =>
        have e1 : a = r := by injection h1
        subst e1
        rw [flat, List.length_append, ← len_tl]
        cases rs with
        | nil =>
          have e2 : a = k := by injection h2
          subst e2
          show _ ≤ _ + 2 ↔ 1 > 1
          omega
        | cons b rs =>
          have h2 : (b :: rs).getLast? = some k := by rw [List.getLast?_cons_cons] at h2; exact h2
          have e3 : b :: rs = (b :: rs).dropLast ++ [k] := by
            have hne : b :: rs ≠ [] := by simp
            have e4 : (b :: rs).getLast hne = k := by
              rw [List.getLast?_eq_some_getLast hne] at h2
              injection h2
            rw [← e4]; exact (List.dropLast_concat_getLast hne).symm
          have e5 : (flat (b :: rs)).length ≥ (lineS k).length + 2 := by
            rw [e3, flat_snoc, List.length_append, List.length_append, ← len_tl]
            show _ + (_ + 2) ≥ _
            omega
          simp only [List.length_cons]
          omega
    · rw [decide_eq_false h2]; simp
  · rw [decide_eq_false h1]; simp
theorem plain_of {ss : List Row} (hd : ∀ s ∈ ss, Dom s) (hs : ss ≠ []) (hl : ss.length ≤ 6) : PlainOk ss := by
  have hP : ∀ r ∈ playF ss, Dom r := fun r hr => hd r (play_mem ss r hr)
  have hne : playF ss ≠ [] := by
    rw [← List.dropLast_concat_getLast hs, play_snoc]
    exact kept_ne _ _ _
  have hpl : (playF ss).length ≤ 6 := Nat.le_trans (play_len ss) hl
  have htl : ∀ rs : List Row, (∀ r ∈ rs, Dom r) → rs.length ≤ 6 → (textL rs).length ≤ 100000 := fun rs h1 h2 => by
    rw [len_tl, tl_textL]
    have := flat_len rs h1
    omega
  refine ⟨fun s h => (dom_facts (hd s h)).1, fun s h => (dom_facts (hd s h)).2.1, fun i s h => ?_, hne, text_eq _, htl _ hP hpl, fun r hr => ?_, fun r hr k hk => ?_⟩
  · exact put_kept (fun r hr => hd r (List.mem_of_mem_take (play_mem _ r hr))) (hd s (List.mem_of_getElem? h))
  · have hr := hd r hr
    obtain ⟨c, s⟩ := dom_sh hr
    have hle := (dom_facts hr).1.l2
    have l1 := line_len s hle
    have h1 : ∀ a ∈ [r], Dom a := fun a ha => by rw [List.mem_singleton.mp ha]; exact hr
    refine ⟨_, _, _, ?_, want2_ok s s hle hle, want3_ok s hle, want4_ok s hle, no_dots ?_, ?_, ?_, ?_, ?_, ?_⟩
    · rw [text_eq]; exact htl _ h1 (by show 1 ≤ 6; omega)
    · show 46 ∉ tl (lineS r ++ sx "\r\n")
      exact s.end_no
    · rw [text_eq, both_where hr hr h1 (by simp)]
      rfl
    · rw [em_pre (by omega), starts_tl, tl_textL, head_where s hP hne]
    · rw [em_suf (by rw [crlf_len]; omega), ends_tl, tl_textL, last_where s hP hne]
    · rw [text_eq, flat_one s h1 (by simp)]; exact decide_eq_true rfl
    · exact flat_one s hP hne
  · have hr := hd r hr
    have hk := hd k hk
    obtain ⟨c, s⟩ := dom_sh hr
    obtain ⟨d, s'⟩ := dom_sh hk
    have h1 := (dom_facts hr).1.l2
    have h2 := (dom_facts hk).1.l2
    refine ⟨_, _, want1_ok s s' h1 h2, want2_ok s s' h1 h2, ?_, both_where hr hk hP hne⟩
    rw [em_mid, tl_textL, above_where s s' _ hP, above_eq]
theorem plain (zs : List Int) : PlainOk ((numsOf zs).map stepRow) := by
  refine plain_of (fun s hs => ?_) ?_ ?_
  · obtain ⟨n, _, rfl⟩ := List.mem_map.mp hs
    exact dom_step n
  · unfold numsOf; simp
  · unfold numsOf
    rw [List.length_map, List.length_append, List.length_map, List.length_take]
    simp only [List.length_cons, List.length_nil]
    omega
theorem g_law (P : Params) : nsIn (KF P) mainGlobals (Str.ofString "law") = some (some (.ref 316)) := by kernel_rfl
theorem dl_is : (defOf qv PySem.Challenge.rw_pe0285_01.row.name).isSome = true := by kernel_rfl
noncomputable def dL : DefRec := ((defOf qv PySem.Challenge.rw_pe0285_01.row.name).get dl_is).1
noncomputable def kL : List (Str × Expr) := ((defOf qv PySem.Challenge.rw_pe0285_01.row.name).get dl_is).2
theorem j1 : defOf qv PySem.Challenge.rw_pe0285_01.row.name = some (dL, kL) := (Option.some_get dl_is).symm
theorem j2 : PySem.Challenge.rw_pe0285_01.row.prog.theDef PySem.Challenge.rw_pe0285_01.row.name = some (dL.params, dL.body, dL.scope) := by kernel_rfl
theorem j3 : kwWritten? dL.params.kwonlyargs dL.params.kw_defaults = some kL := by kernel_rfl
theorem jw : PySem.Challenge.rw_pe0285_01.wellSaid = true := by decide +kernel
theorem j6 : (chainsOk qv && opensWell PySem.Challenge.rw_pe0285_01.row.prog && (frees PySem.Challenge.rw_pe0285_01.row.toRowW && PySem.Challenge.rw_pe0285_01.row.within.isEmpty)) = true := by decide +kernel
theorem j7 : PySem.Challenge.rw_pe0285_01.row.prog.bare := ⟨by kernel_rfl, by kernel_rfl, by kernel_rfl, by kernel_rfl, by kernel_rfl, by decide +kernel⟩
theorem j5 : (!PySem.Challenge.rw_pe0285_01.row.writes || PySem.Challenge.rw_pe0285_01.row.records.isEmpty) = true := by kernel_rfl
theorem jr : PySem.Challenge.rw_pe0285_01.row.records = [] := by kernel_rfl
theorem jp : PySem.Challenge.rw_pe0285_01.row.toRowW.promised := ⟨[.list [.int 3, .int 1]], by decide +kernel, by decide +kernel⟩
abbrev XT : Shared → Bool := fun s => xlAt qv [] s && recOk [] s
theorem jn : mainGlobals = mainGlobals := rfl
theorem dname : dL.name = Str.ofString "law" := by kernel_rfl
theorem joint_of (hc : WalkO qv lse (XL qv []) hk.says PySem.Challenge.rw_pe0285_01.row.toRowW dL kL fun f vs => PySem.call f vs) : PySem.Challenge.rw_pe0285_01.Holds := by
  refine holds_law jw fun said => ?_
  exact holds_open (q := qv) (loose := lse) (Xt := XT) (XP := XL qv []) (Yf := hk.obs) (Ya := hk.val) (YP := hk.says) (N := 4000) left (Hook.of hk) (Hook.keeps hk) (fun s e => xl_of s (Bool.and_eq_true_iff.mp e).1) XL.keeps j1 j2 j3 (fun s e => jr ▸ recFacts_of (Bool.and_eq_true_iff.mp e).2) j5 said j6 j7 jp hc
theorem daInts {G : Gr} {vs : List Value} {xs : List Int} (h : IntsAre vs xs) : DaAll G vs (xs.map Da.int) := by
  induction h with
  | nil => exact .nil
  | cons => exact .cons (.int _ _) (by assumption)
theorem hcall (hp : ∀ zs : List Int, PlainOk ((numsOf zs).map stepRow)) : WalkO qv lse (XL qv []) hk.says PySem.Challenge.rw_pe0285_01.row.toRowW dL kL fun f vs => PySem.call f vs := by
  intro w s₀ s₁ mg mb G Y fa o pm cd doc dV kV ho hd hcd hD hmg hg args vals as hpre hlay hrd hwl hlo
  have KX : (KF w.params).In s₁.heap := kIn_of (K := KF) (as := KFas) (e := kf_as) Y
  have T := G.T
  have hfa : fa = 316 := by
    have h1 := mg_of KX T.g (g_law _)
    rw [dname] at hmg
    rw [hmg] at h1
    injection h1 with h1
    injection h1
  subst hfa
  clear G Y ho hd hcd hD hmg
  wrow_args hpre hlay hrd hwl hlo
  rename_i xs _ _ _ _ _ _ _ la vs _ hL ra w1 r0 hI _ hc1 _
  have hz : xs.length ≤ 63 := by omega
  obtain ⟨o', e1, e2⟩ := hL
  have hs : DaIn s₁.heap.get? (.ref la) (.lst (xs.map Da.int)) := .lst e1 e2 (daInts hI)
  have hA : Rm callerA 28 110 := ⟨rfl, by decide, by decide⟩
  obtain ⟨H, g, d, t, os⟩ := s₁
  refine c_law (H0 := H) ⟨KX, ⟨_, _, _, _, _, T⟩⟩ hA hs hz (hp xs) ?q
  case q =>
    intro h' t' hk'
    refine GoodW.toG ⟨.inl ⟨_, .bool true, [], rfl, raisesW_false (by wrow_none_raised), .bool true, ?hp, unshared_nil⟩, hk', rfl, hg⟩
    exact postW_of (by wrow_shape) (by wtm_val) (by w_fin)
theorem joint (hp : ∀ zs : List Int, PlainOk ((numsOf zs).map stepRow)) : PySem.Challenge.rw_pe0285_01.Holds := joint_of (hcall hp)
end Mine
end
set_option maxRecDepth 100000 in
set_option maxHeartbeats 8000000 in
theorem PySem.Challenge.cw_pe0285_01_holds : PySem.Challenge.rw_pe0285_01.Holds := by
  exact Mine.joint Mine.plain
