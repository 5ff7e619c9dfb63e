import PyProof.Rows.All
import Wide.All
import OpenK.AllK
import Wide.FinOn
import PySem.Challenge.RW_rw0079_01
open PySem PySem.W PySem.Calls PyProof.Rows
set_option Elab.async false
set_option linter.unusedVariables false
set_option linter.unusedSimpArgs false
set_option genSizeOf false
set_option genSizeOfSpec false
set_option maxRecDepth 1000000
set_option maxHeartbeats 0
namespace Mine
def vw : Program := view PySem.Challenge.pw_rw0079_01 [1, 2, 3, 4, 6, 7, 8, 9, 10, 11, 12, 14, 15, 16, 17, 18, 20, 21, 22, 23, 24, 25, 26, 27, 28]
theorem ws : OpenLaw.wellSaid PySem.Challenge.rw_rw0079_01 = true := by kernel_rfl
local macro_rules | `(tactic| o_law) => `(tactic| refine holds_law ws fun said => ?_)
local macro_rules | `(tactic| o_head $H) => `(tactic| (refine holds_open (q := vw) (loose := [Str.ofString "UNKNOWN"]) (Xt := fun s => xlAt vw [] s && recOk (RowW.records PySem.Challenge.rw_rw0079_01.row.toRowW) s) (XP := XL vw []) (Yf := Hook.obs $H) (Ya := Hook.val $H) (YP := Hook.says $H) (N := 2054) ?hl (Hook.of $H) (Hook.keeps $H) (fun s e => xl_of s (Bool.and_eq_true_iff.mp e).1) XL.keeps (by rfl) (by rfl) (by rfl) (fun s e => recFacts_of (Bool.and_eq_true_iff.mp e).2) (by rfl) (by assumption) (by decide +kernel) ⟨rfl, rfl, rfl, rfl, rfl, by decide +kernel⟩ ?hw ?hc; (case hl => intro w; kernel_rfl)))
open_top hd for PySem.Challenge.rw_rw0079_01
set_option maxRecDepth 100000
set_option maxHeartbeats 4000000
noncomputable abbrev Pg : Program := PySem.Challenge.pw_rw0079_01
set_option genInjectivity false in
structure GC where
  w : World
  p : Program
  loose : List Str
  mean : ExcName → Option Value
  mg : Str → Option Value
  mb : Str → Option Value
  b : Heap
  os : OsState
  X : (hd.heap_1 w.params).In b
  T : Top p loose mean mg mb b
noncomputable abbrev Mo (c : GC) : Model := model Pg c.w
noncomputable def Rest (c : GC) (s : Shared) : Prop := s.os = c.os ∧ s.gens = #[]
structure Wp (c : GC) {α : Type} (A : Around) (t : Sem α) (Q : α → Heap → Prop) (E : Value → Heap → Prop) (h : Heap) : Prop where
  run : ∀ s : Shared, s.heap = h → Rest c s → wpAny (Mo c) A t (fun a s' => Q a s'.heap ∧ Rest c s') (fun e s' => E e s'.heap ∧ Rest c s') s
structure Cd (c : GC) (A : Around) (k : Code) (R : Result → Heap → Prop) (h : Heap) : Prop where
  run : ∀ s : Shared, s.heap = h → Rest c s → codeAny (Mo c) A k (fun r s' => R r s'.heap ∧ Rest c s') s
section
variable {c : GC} {α β : Type} {A : Around} {E : Value → Heap → Prop} {h : Heap}
theorem Wp.mono {t : Sem α} {Q Q' : α → Heap → Prop} {E' : Value → Heap → Prop} (x : Wp c A t Q E h) (hQ : ∀ a h', Q a h' → Q' a h') (hE : ∀ e h', E e h' → E' e h') : Wp c A t Q' E' h :=
  ⟨fun s hs hr => wpAny_mono (x.run s hs hr) (fun _ _ y => ⟨hQ _ _ y.1, y.2⟩) fun _ _ y => ⟨hE _ _ y.1, y.2⟩⟩
theorem Wp.imp {t : Sem α} {Q Q' : α → Heap → Prop} (x : Wp c A t Q E h) (hQ : ∀ a h', Q a h' → Q' a h') : Wp c A t Q' E h := x.mono hQ fun _ _ y => y
theorem Wp_pure {a : α} {Q : α → Heap → Prop} (x : Q a h) : Wp c A (pure a) Q E h := ⟨fun _ hs hr => wpAny_pure ⟨hs ▸ x, hr⟩⟩
theorem Wp_bind {t : Sem α} {f : α → Sem β} {Q : β → Heap → Prop} (x : Wp c A t (fun a h' => Wp c A (f a) Q E h') E h) : Wp c A (t >>= f) Q E h :=
  ⟨fun s hs hr => wpAny_bind (wpAny_mono (x.run s hs hr) (fun _ s' y => y.1.run s' rfl y.2) fun _ _ y => y)⟩
theorem Wp_eq {t t' : Sem α} {Q : α → Heap → Prop} (e : t = t') (x : Wp c A t' Q E h) : Wp c A t Q E h := e ▸ x
theorem Cd.mono {k : Code} {R R' : Result → Heap → Prop} (x : Cd c A k R h) (hR : ∀ r h', R r h' → R' r h') : Cd c A k R' h :=
  ⟨fun s hs hr => codeAny_mono (x.run s hs hr) fun _ _ y => ⟨hR _ _ y.1, y.2⟩⟩
theorem Wp_call {f : Value} {pos : List Value} {kw : List (Str × Value)} {Q : Value → Heap → Prop} (x : Cd c A (.call f ⟨pos, kw⟩) (fun r h' => match r with | .ok (.ret v) => Q v h' | .ok _ => False | .error e => E e h') h) : Wp c A (call f pos kw) Q E h :=
  ⟨fun s hs hr => wpAny_call (codeAny_mono (x.run s hs hr) fun r s' y => by
    cases r with
    | ok fl => cases fl <;> first | exact y | exact y.1.elim
    | error e => exact y)⟩
end
noncomputable abbrev NoE : Value → Heap → Prop := fun _ _ => False
noncomputable abbrev FB := Addr → Option Obj
noncomputable def Sub (g g' : FB) : Prop := ∀ a o, g a = some o → g' a = some o
theorem Sub.rfl {g : FB} : Sub g g := fun _ _ e => e
theorem Sub.trans {g g' g'' : FB} (x : Sub g g') (y : Sub g' g'') : Sub g g'' := fun a o e => y a o (x a o e)
noncomputable def FB.put (g : FB) (a : Addr) (o : Obj) : FB := fun b => if b = a then some o else g b
theorem FB.sub_put {g : FB} {a : Addr} {o : Obj} (h : g a = none) : Sub g (g.put a o) := fun b o' e => by
  unfold FB.put
  split
  · next q => rw [q, h] at e; cases e
  · exact e
theorem FB.put_self {g : FB} {a : Addr} {o : Obj} : (g.put a o) a = some o := by unfold FB.put; rw [if_pos (_root_.rfl)]
inductive Dt where
  | none
  | bool (b : Bool)
  | int (i : Int)
  | str (x : Str)
  | tup (ds : List Dt)
  | lst (ds : List Dt)
  | ref (a : Addr)
noncomputable abbrev tupOf (vs : List Value) (n : Nat) : Obj := { cls := .type "tuple", data := .seq vs.toArray n }
mutual
inductive Den (g : FB) : Value → Dt → Prop
  | none : Den g Value.none Dt.none
  | bool (b : Bool) : Den g (Value.bool b) (Dt.bool b)
  | int (i : Int) (t : Tok) : Den g (Value.int i t) (Dt.int i)
  | str (x : Str) (t : Tok) : Den g (Value.str x t) (Dt.str x)
  | tup {a : Addr} {vs : List Value} {n : Nat} {ds : List Dt} : g a = some (tupOf vs n) → Dens g vs ds → Den g (Value.ref a) (Dt.tup ds)
  | lst {a : Addr} {vs : List Value} {n : Nat} {ds : List Dt} : g a = some (listOf vs.toArray n) → Dens g vs ds → Den g (Value.ref a) (Dt.lst ds)
  | ref (a : Addr) : Den g (Value.ref a) (Dt.ref a)
inductive Dens (g : FB) : List Value → List Dt → Prop
  | nil : Dens g [] []
  | cons {v : Value} {vs : List Value} {d : Dt} {ds : List Dt} : Den g v d → Dens g vs ds → Dens g (v :: vs) (d :: ds)
end
theorem Den.both {g : FB} {P : Value → Dt → Prop} {Q : List Value → List Dt → Prop} (hn : P .none .none) (hb : ∀ b, P (.bool b) (.bool b)) (hi : ∀ i t, P (.int i t) (.int i)) (hs : ∀ x t, P (.str x t) (.str x))
    (ht : ∀ a vs n ds, g a = some (tupOf vs n) → Q vs ds → P (.ref a) (.tup ds)) (hl : ∀ a vs n ds, g a = some (listOf vs.toArray n) → Q vs ds → P (.ref a) (.lst ds)) (hr : ∀ a, P (.ref a) (.ref a))
    (h0 : Q [] []) (hc : ∀ v vs d ds, P v d → Q vs ds → Q (v :: vs) (d :: ds)) : (∀ v d, Den g v d → P v d) ∧ ∀ vs ds, Dens g vs ds → Q vs ds :=
  ⟨fun _ _ h => Den.rec (motive_1 := fun v d _ => P v d) (motive_2 := fun vs ds _ => Q vs ds) hn hb hi hs (fun e _ q => ht _ _ _ _ e q) (fun e _ q => hl _ _ _ _ e q) hr h0 (fun _ _ p q => hc _ _ _ _ p q) h,
   fun _ _ h => Dens.rec (motive_1 := fun v d _ => P v d) (motive_2 := fun vs ds _ => Q vs ds) hn hb hi hs (fun e _ q => ht _ _ _ _ e q) (fun e _ q => hl _ _ _ _ e q) hr h0 (fun _ _ p q => hc _ _ _ _ p q) h⟩
theorem Den.mono2 {g g' : FB} (hs : Sub g g') : (∀ v d, Den g v d → Den g' v d) ∧ ∀ vs ds, Dens g vs ds → Dens g' vs ds :=
  Den.both .none .bool .int .str (fun _ _ _ _ e q => .tup (hs _ _ e) q) (fun _ _ _ _ e q => .lst (hs _ _ e) q) .ref .nil fun _ _ _ _ p q => .cons p q
theorem Den.mono {g g' : FB} (hs : Sub g g') {v : Value} {d : Dt} (h : Den g v d) : Den g' v d := (Den.mono2 hs).1 v d h
theorem Dens.mono {g g' : FB} (hs : Sub g g') {vs : List Value} {ds : List Dt} (h : Dens g vs ds) : Dens g' vs ds := (Den.mono2 hs).2 vs ds h
section
variable {g : FB} {v : Value} {d : Dt} {vs ws : List Value} {ds es : List Dt}
theorem Dens.ind {P : List Value → List Dt → Prop} (h : Dens g vs ds) (h0 : P [] []) (hc : ∀ v vs d ds, Den g v d → P vs ds → P (v :: vs) (d :: ds)) : P vs ds :=
  Dens.rec (motive_1 := fun _ _ _ => True) (motive_2 := fun vs ds _ => P vs ds) trivial (fun _ => trivial) (fun _ _ => trivial) (fun _ _ => trivial) (fun _ _ _ => trivial) (fun _ _ _ => trivial) (fun _ => trivial) h0 (fun h _ _ q => hc _ _ _ _ h q) h
theorem Dens.length (h : Dens g vs ds) : vs.length = ds.length := h.ind (P := fun vs ds => vs.length = ds.length) rfl fun _ _ _ _ _ ih => congrArg (· + 1) ih
theorem Dens.append (h : Dens g vs ds) (k : Dens g ws es) : Dens g (vs ++ ws) (ds ++ es) := h.ind (P := fun vs ds => Dens g (vs ++ ws) (ds ++ es)) k fun _ _ _ _ h ih => .cons h ih
theorem Dens.one (h : Den g v d) : Dens g [v] [d] := .cons h .nil
theorem Dens.get (h : Dens g vs ds) {k : Nat} (hk : ds[k]? = some d) : ∃ v, vs[k]? = some v ∧ Den g v d :=
  h.ind (P := fun vs ds => ∀ k, ds[k]? = some d → ∃ v, vs[k]? = some v ∧ Den g v d) (fun _ q => by cases q) (fun v vs d' ds h ih k hk => by
    cases k with
    | zero => exact ⟨v, rfl, Option.some.inj hk ▸ h⟩
    | succ k => exact ih k hk) k hk
theorem Dens.set (h : Dens g vs ds) {k : Nat} (hd : Den g v d) : Dens g (vs.set k v) (ds.set k d) :=
  (h.ind (P := fun vs ds => Dens g vs ds ∧ ∀ k, Dens g (vs.set k v) (ds.set k d)) ⟨.nil, fun _ => .nil⟩ fun _ _ _ _ h ih => ⟨.cons h ih.1, fun k => by
    cases k with
    | zero => exact .cons hd ih.1
    | succ k => exact .cons h (ih.2 k)⟩).2 k
theorem Dens.take (h : Dens g vs ds) (k : Nat) : Dens g (vs.take k) (ds.take k) :=
  h.ind (P := fun vs ds => ∀ k, Dens g (vs.take k) (ds.take k)) (fun k => by cases k <;> exact .nil) (fun _ _ _ _ h ih k => by
    cases k with
    | zero => exact .nil
    | succ k => exact .cons h (ih k)) k
theorem Dens.drop (h : Dens g vs ds) (k : Nat) : Dens g (vs.drop k) (ds.drop k) :=
  (h.ind (P := fun vs ds => Dens g vs ds ∧ ∀ k, Dens g (vs.drop k) (ds.drop k)) ⟨.nil, fun k => by cases k <;> exact .nil⟩ fun _ _ _ _ h ih => ⟨.cons h ih.1, fun k => by
    cases k with
    | zero => exact .cons h ih.1
    | succ k => exact ih.2 k⟩).2 k
theorem Dens.reverse (h : Dens g vs ds) : Dens g vs.reverse ds.reverse :=
  h.ind (P := fun vs ds => Dens g vs.reverse ds.reverse) .nil fun _ _ _ _ h ih => by rw [List.reverse_cons, List.reverse_cons]; exact ih.append (.one h)
noncomputable def Den.Inv (g : FB) (v : Value) : Dt → Prop
  | .none => v = .none
  | .bool b => v = .bool b
  | .int i => ∃ t, v = .int i t
  | .str x => ∃ t, v = .str x t
  | .tup ds => ∃ a vs n, v = .ref a ∧ g a = some (tupOf vs n) ∧ Dens g vs ds
  | .lst ds => ∃ a vs n, v = .ref a ∧ g a = some (listOf vs.toArray n) ∧ Dens g vs ds
  | .ref a => v = .ref a
theorem Den.inv (h : Den g v d) : Den.Inv g v d := by
  cases h with
  | none => rfl
  | bool b => rfl
  | int i t => exact ⟨t, rfl⟩
  | str x t => exact ⟨t, rfl⟩
  | tup e k => exact ⟨_, _, _, rfl, e, k⟩
  | lst e k => exact ⟨_, _, _, rfl, e, k⟩
  | ref a => rfl
theorem Den.int_inv {i : Int} (h : Den g v (.int i)) : ∃ t, v = .int i t := h.inv
theorem Den.str_inv {x : Str} (h : Den g v (.str x)) : ∃ t, v = .str x t := h.inv
theorem Den.bool_inv {b : Bool} (h : Den g v (.bool b)) : v = .bool b := h.inv
theorem Den.none_inv (h : Den g v .none) : v = .none := h.inv
theorem Den.ref_inv {a : Addr} (h : Den g v (.ref a)) : v = .ref a := h.inv
theorem Den.lst_inv (h : Den g v (.lst ds)) : ∃ a vs n, v = .ref a ∧ g a = some (listOf vs.toArray n) ∧ Dens g vs ds := h.inv
theorem Den.tup_inv (h : Den g v (.tup ds)) : ∃ a vs n, v = .ref a ∧ g a = some (tupOf vs n) ∧ Dens g vs ds := h.inv
end
inductive OC where
  | lst (ds : List Dt)
  | cell (d : Option Dt)
  | pr (P : Obj → Prop)
  | gp (P : FB → Obj → Prop)
noncomputable def OC.is (g : FB) : OC → Obj → Prop
  | .lst ds, o => ∃ vs n, o = listOf vs.toArray n ∧ Dens g vs ds
  | .cell none, o => o.data = .cell none
  | .cell (some d), o => ∃ v, o.data = .cell (some v) ∧ Den g v d
  | .pr P, o => P o
  | .gp P, o => ∃ g₀, Sub g₀ g ∧ P g₀ o
theorem OC.is.mono {g g' : FB} (hs : Sub g g') {x : OC} {o : Obj} (h : x.is g o) : x.is g' o := by
  match x, h with
  | .lst ds, ⟨vs, n, e, r⟩ => exact ⟨vs, n, e, r.mono hs⟩
  | .cell none, h => exact h
  | .cell (some d), ⟨v, e, r⟩ => exact ⟨v, e, r.mono hs⟩
  | .pr P, h => exact h
  | .gp P, ⟨g₀, s, h⟩ => exact ⟨g₀, s.trans hs, h⟩
noncomputable abbrev Led := List (Addr × OC)
set_option genInjectivity false in
structure Rec where
  g : FB
  h : Heap
  ks : List Addr
noncomputable def Al (h h' : Heap) : Prop := ∀ a o, h.get? a = some o → ∃ o', h'.get? a = some o'
theorem Al.rfl {h : Heap} : Al h h := fun _ o e => ⟨o, e⟩
theorem Al.trans {h h' h'' : Heap} (x : Al h h') (y : Al h' h'') : Al h h'' := fun a o e => let ⟨o', e'⟩ := x a o e; y a o' e'
theorem Al.of {h h' : Heap} (k : ∀ a o, h.get? a = some o → h'.get? a = some o) : Al h h' := fun a o e => ⟨o, k a o e⟩
theorem Al.none {h h' : Heap} (x : Al h h') {a : Addr} (e : h'.get? a = none) : h.get? a = none := by
  cases q : h.get? a with
  | none => exact _root_.rfl
  | some o => obtain ⟨o', q'⟩ := x a o q; rw [e] at q'; cases q'
theorem Heap.get?_push_self_none (h : Heap) : h.get? h.objs.size = none := Heap.get?_none_of_le (Nat.le_refl _)
structure Ret (r : Rec) (g : FB) (own : Led) (h : Heap) : Prop where
  gh : ∀ a o, g a = some o → h.get? a = some o
  ow : ∀ p ∈ own, (∃ o, h.get? p.1 = some o ∧ p.2.is g o) ∧ g p.1 = none
  nd : (own.map (·.1)).Nodup
  g0 : Sub r.g g
  fr : ∀ a o, g a = some o → r.g a = some o ∨ r.h.get? a = none
  kp : ∀ a o, a ∉ r.ks → r.h.get? a = some o → h.get? a = some o
  os : ∀ p ∈ own, p.1 ∈ r.ks ∨ r.h.get? p.1 = none
  al : Al r.h h
noncomputable abbrev Loc := List (Str × Dt)
noncomputable def NsD (h : Heap) (L : Addr) (g : FB) (loc : Loc) : Prop := ∃ m, h.Ns L m ∧ ∀ x d, loc.lookup x = some d → ∃ v, m x = some v ∧ Den g v d
theorem NsD.live {h : Heap} {L : Addr} {g : FB} {loc : Loc} (x : NsD h L g loc) : ∃ o, h.get? L = some o := let ⟨_, n, _⟩ := x; let ⟨o, _, _, e, _⟩ := n; ⟨o, e⟩
theorem NsD.at' {h h' : Heap} {L : Addr} {g g' : FB} {loc : Loc} (x : NsD h L g loc) (hg : Sub g g') (e : ∀ o, h.get? L = some o → h'.get? L = some o) : NsD h' L g' loc :=
  let ⟨m, n, k⟩ := x; ⟨m, n.at' e, fun x d q => let ⟨v, a, b⟩ := k x d q; ⟨v, a, b.mono hg⟩⟩
structure St (c : GC) (r : Rec) (g : FB) (own : Led) (L : Addr) (loc : Loc) (h : Heap) : Prop extends Ret r g own h where
  cb : ∀ a o, c.b.get? a = some o → g a = some o
  ns : NsD h L g loc
  gL : g L = none
  oL : ∀ p ∈ own, p.1 ≠ L
  Lr : r.h.get? L = none
structure Pre (c : GC) (g : FB) (own : Led) (h : Heap) : Prop where
  cb : ∀ a o, c.b.get? a = some o → g a = some o
  gh : ∀ a o, g a = some o → h.get? a = some o
  ow : ∀ p ∈ own, (∃ o, h.get? p.1 = some o ∧ p.2.is g o) ∧ g p.1 = none
  nd : (own.map (·.1)).Nodup
theorem Ret.rfl {c : GC} {g : FB} {own : Led} {h : Heap} (P : Pre c g own h) : Ret ⟨g, h, own.map (·.1)⟩ g own h :=
  ⟨P.gh, P.ow, P.nd, Sub.rfl, fun _ _ e => .inl e, fun _ _ _ e => e, fun _ hp => .inl (List.mem_map_of_mem hp), Al.rfl⟩
theorem St.pre {c : GC} {r : Rec} {g : FB} {own : Led} {L : Addr} {loc : Loc} {h : Heap} (D : St c r g own L loc h) : Pre c g own h := ⟨D.cb, D.gh, D.ow, D.nd⟩
inductive Sel : Led → Led → Led → Prop
  | all {n} : Sel n [] n
  | take {p n m r} : Sel n m r → Sel (p :: n) (p :: m) r
  | skip {p n m r} : Sel n m r → Sel (p :: n) m (p :: r)
theorem Sel.memL {n m r : Led} (x : Sel n m r) : (∀ p ∈ m, p ∈ n) ∧ (∀ p ∈ r, p ∈ n) := by
  induction x with
  | all => exact ⟨fun _ h => (nomatch h), fun _ h => h⟩
  | take _ ih => exact ⟨fun p h => by rcases List.mem_cons.mp h with rfl | h; exact .head _; exact .tail _ (ih.1 p h), fun p h => .tail _ (ih.2 p h)⟩
  | skip _ ih => exact ⟨fun p h => .tail _ (ih.1 p h), fun p h => by rcases List.mem_cons.mp h with rfl | h; exact .head _; exact .tail _ (ih.2 p h)⟩
theorem Sel.nd {n m r : Led} (x : Sel n m r) : (n.map (·.1)).Nodup → (m.map (·.1)).Nodup ∧ (r.map (·.1)).Nodup ∧ ∀ p ∈ m, ∀ q ∈ r, p.1 ≠ q.1 := by
  induction x with
  | all => exact fun h => ⟨.nil, h, fun _ h => (nomatch h)⟩
  | take s ih =>
    intro h
    rw [List.map_cons, List.nodup_cons] at h
    obtain ⟨z, a, b⟩ := ih h.2
    refine ⟨?_, a, fun p hp q hq => ?_⟩
    · rw [List.map_cons, List.nodup_cons]
      refine ⟨fun q => ?_, z⟩
      obtain ⟨y, hy, e⟩ := List.mem_map.mp q
      exact h.1 (e ▸ List.mem_map_of_mem (f := (·.1)) (s.memL.1 y hy))
    · rcases List.mem_cons.mp hp with rfl | hp
      · exact fun e => h.1 (e ▸ List.mem_map_of_mem (f := (·.1)) (s.memL.2 q hq))
      · exact b p hp q hq
  | skip s ih =>
    intro h
    rw [List.map_cons, List.nodup_cons] at h
    obtain ⟨z, a, b⟩ := ih h.2
    rw [List.map_cons, List.nodup_cons]
    refine ⟨z, ⟨fun q => ?_, a⟩, fun p hp q hq => ?_⟩
    · obtain ⟨y, hy, e⟩ := List.mem_map.mp q
      exact h.1 (e ▸ List.mem_map_of_mem (f := (·.1)) (s.memL.2 y hy))
    · rcases List.mem_cons.mp hq with rfl | hq
      · exact fun e => h.1 (e ▸ List.mem_map_of_mem (f := (·.1)) (s.memL.1 p hp))
      · exact b p hp q hq
theorem St.preSel {c : GC} {r : Rec} {g : FB} {own mu rest : Led} {L : Addr} {loc : Loc} {h : Heap} (D : St c r g own L loc h) (S : Sel own mu rest) : Pre c g mu h :=
  ⟨D.cb, D.gh, fun p hp => D.ow p (S.memL.1 p hp), (S.nd D.nd).1⟩
theorem Ret.after {r : Rec} {g g' : FB} {own mu rest own' : Led} {h h' : Heap} {ks : List Addr} (D : Ret r g own h) (S : Sel own mu rest) (hk : ∀ k ∈ ks, k ∈ mu.map (·.1))
    (R : Ret ⟨g, h, ks⟩ g' own' h') : Ret r g' (own' ++ rest) h' := by
  have live : ∀ p ∈ own, ∃ o, h.get? p.1 = some o := fun p hp => by obtain ⟨o, e, _⟩ := (D.ow p hp).1; exact ⟨o, e⟩
  obtain ⟨_, nr, ap⟩ := S.nd D.nd
  have ne : ∀ q ∈ rest, q.1 ∉ ks := fun q hq e => by
    obtain ⟨p, hp, e'⟩ := List.mem_map.mp (hk _ e)
    exact ap p hp q hq e'
  have ab : ∀ p ∈ own, h.get? p.1 ≠ none := fun p hp e => by obtain ⟨o, q⟩ := live p hp; rw [e] at q; cases q
  refine ⟨R.gh, fun p hp => ?_, ?_, D.g0.trans R.g0, fun a o e => ?_, fun a o ha e => ?_, fun p hp => ?_, D.al.trans R.al⟩
  · rcases List.mem_append.mp hp with hp | hp
    · exact R.ow p hp
    · have z := D.ow p (S.memL.2 p hp)
      obtain ⟨o, e, i⟩ := z.1
      refine ⟨⟨o, R.kp _ _ (ne p hp) e, i.mono R.g0⟩, ?_⟩
      cases q : g' p.1 with
      | none => rfl
      | some o' =>
        rcases R.fr _ _ q with q | q
        · exact absurd (q.symm.trans z.2) (by simp)
        · exact absurd q (ab p (S.memL.2 p hp))
  · rw [List.map_append]
    refine List.nodup_append.mpr ⟨R.nd, nr, fun x hx y hy e => ?_⟩
    obtain ⟨p, hp, rfl⟩ := List.mem_map.mp hx
    obtain ⟨q, hq, rfl⟩ := List.mem_map.mp hy
    rcases R.os p hp with z | z
    · exact ne q hq (e ▸ z)
    · exact ab q (S.memL.2 q hq) (e ▸ z)
  · rcases R.fr a o e with q | q
    · exact D.fr a o q
    · exact .inr (D.al.none q)
  · refine R.kp a o (fun q => ?_) (D.kp a o ha e)
    obtain ⟨p, hp, rfl⟩ := List.mem_map.mp (hk _ q)
    rcases D.os p (S.memL.1 p hp) with z | z
    · exact ha z
    · rw [z] at e; cases e
  · rcases List.mem_append.mp hp with hp | hp
    · rcases R.os p hp with q | q
      · obtain ⟨p', hp', e⟩ := List.mem_map.mp (hk _ q)
        have := D.os p' (S.memL.1 p' hp')
        rw [e] at this; exact this
      · exact .inr (D.al.none q)
    · exact D.os p (S.memL.2 p hp)
theorem St.after {c : GC} {r : Rec} {g g' : FB} {own mu rest own' : Led} {L : Addr} {loc : Loc} {h h' : Heap} {ks : List Addr} (D : St c r g own L loc h) (S : Sel own mu rest) (hk : ∀ k ∈ ks, k ∈ mu.map (·.1))
    (R : Ret ⟨g, h, ks⟩ g' own' h') : St c r g' (own' ++ rest) L loc h' := by
  have kL : L ∉ ks := fun q => by
    obtain ⟨p, hp, e⟩ := List.mem_map.mp (hk _ q)
    exact D.oL p (S.memL.1 p hp) e
  have hL : h.get? L ≠ none := fun e => by obtain ⟨o, q⟩ := D.ns.live; rw [e] at q; cases q
  refine ⟨D.toRet.after S hk R, fun a o e => R.g0 _ _ (D.cb a o e), D.ns.at' R.g0 fun o e => R.kp _ _ kL e, ?_, fun p hp => ?_, D.Lr⟩
  · cases q : g' L with
    | none => rfl
    | some o =>
      rcases R.fr _ _ q with q | q
      · exact absurd (q.symm.trans D.gL) (by simp)
      · exact absurd q hL
  · rcases List.mem_append.mp hp with hp | hp
    · intro e
      rcases R.os p hp with q | q
      · exact kL (e ▸ q)
      · rw [e] at q; exact hL q
    · exact D.oL p (S.memL.2 p hp)
structure Gr (g : FB) (h : Heap) (g' : FB) (h' : Heap) : Prop where
  sub : Sub g g'
  gh : ∀ a o, g' a = some o → h'.get? a = some o
  fr : ∀ a o, g' a = some o → g a = some o ∨ h.get? a = none
  kp : ∀ a o, h.get? a = some o → h'.get? a = some o
section
variable {g g' g'' : FB} {h h' h'' : Heap} {a : Addr} {o : Obj}
theorem Gr.refl (gh : ∀ a o, g a = some o → h.get? a = some o) : Gr g h g h := ⟨.rfl, gh, fun _ _ e => .inl e, fun _ _ e => e⟩
theorem Gr.trans (x : Gr g h g' h') (y : Gr g' h' g'' h'') : Gr g h g'' h'' :=
  ⟨x.sub.trans y.sub, y.gh, fun a o e => (y.fr a o e).elim (x.fr a o) fun q => .inr ((Al.of x.kp).none q), fun a o e => y.kp a o (x.kp a o e)⟩
theorem Gr.here (x : Gr g h g' h') : Gr g' h' g' h' := .refl x.gh
theorem Gr.ret (x : Gr g h g' h') : Ret ⟨g, h, []⟩ g' [] h' := ⟨x.gh, fun _ q => (nomatch q), .nil, x.sub, x.fr, fun a o _ e => x.kp a o e, fun _ q => (nomatch q), .of x.kp⟩
theorem Ret.gr {own : Led} (x : Ret ⟨g, h, []⟩ g' own h') : Gr g h g' h' := ⟨x.g0, x.gh, x.fr, fun a o e => x.kp a o (fun q => nomatch q) e⟩
theorem Gr.heap (gh : ∀ a o, g a = some o → h.get? a = some o) (kp : ∀ a o, h.get? a = some o → h'.get? a = some o) : Gr g h g h' :=
  ⟨.rfl, fun a o e => kp a o (gh a o e), fun _ _ e => .inl e, kp⟩
theorem Gr.fz (x : Gr g h g' h') (hn : h.get? a = none) (gn : g' a = none) (e : h'.get? a = some o) : Gr g h (g'.put a o) h' ∧ Sub g' (g'.put a o) ∧ (g'.put a o) a = some o := by
  refine ⟨⟨x.sub.trans (FB.sub_put gn), fun b o' q => ?_, fun b o' q => ?_, x.kp⟩, FB.sub_put gn, FB.put_self⟩
  · unfold FB.put at q
    split at q
    · next z => cases q; rw [z]; exact e
    · exact x.gh _ _ q
  · unfold FB.put at q
    split at q
    · next z => exact .inr (z ▸ hn)
    · exact x.fr _ _ q
theorem Gr.push {o : Obj} (gh : ∀ a o, g a = some o → h.get? a = some o) : Gr g h g (h.push o) := .heap gh fun _ _ e => Heap.get?_push_of_some _ e
theorem FB.none_of (gh : ∀ a o, g a = some o → h.get? a = some o) (e : h.get? a = none) : g a = none := by
  cases q : g a with
  | none => rfl
  | some o => have := gh _ _ q; rw [e] at this; cases this
theorem Gr.put {o : Obj} (gh : ∀ a o, g a = some o → h.get? a = some o) (hf : o.isFreed = false) : Gr g h (g.put h.objs.size o) (h.push o) ∧ (g.put h.objs.size o) h.objs.size = some o := by
  have z := (Gr.push (o := o) gh).fz (Heap.get?_push_self_none h) (FB.none_of gh (Heap.get?_push_self_none h)) (Heap.get?_push_size _ hf)
  exact ⟨z.1, z.2.2⟩
end
section
variable {c : GC} {r : Rec} {g g' : FB} {own own' : Led} {L a : Addr} {loc loc' : Loc} {h h' : Heap} {o : Obj} {x x' : OC}
theorem St.grow (D : St c r g own L loc h) (G : Gr g h g' h') : St c r g' own L loc h' := D.after .all (fun _ q => by cases q) G.ret
theorem St.gr (D : St c r g own L loc h) : Gr g h g h := .refl D.gh
theorem St.store (D : St c r g own L loc h) (hn : NsD h' L g loc') (hs : Heap.SameBut L h h') : St c r g own L loc' h' := by
  refine ⟨⟨fun b o e => ?_, fun p hp => ?_, D.nd, D.g0, D.fr, fun b o hb e => ?_, D.os, D.al.trans fun b o e => ?_⟩, D.cb, hn, D.gL, D.oL, D.Lr⟩
  · rw [hs.2 b fun q => by rw [q, D.gL] at e; cases e]; exact D.gh _ _ e
  · have z := D.ow p hp
    obtain ⟨o, e, i⟩ := z.1
    exact ⟨⟨o, (hs.2 _ (D.oL p hp)).trans e, i⟩, z.2⟩
  · rw [hs.2 b fun q => by rw [q, D.Lr] at e; cases e]; exact D.kp b o hb e
  · by_cases q : b = L
    · subst q; exact hn.live
    · exact ⟨o, (hs.2 b q).trans e⟩
theorem St.adopt (D : St c r g own L loc h) (G : Gr g h g' h') (hn : h.get? a = none) (gn : g' a = none) (e : h'.get? a = some o) (i : x.is g' o) : St c r g' ((a, x) :: own) L loc h' := by
  have D' := D.grow G
  refine ⟨⟨D'.gh, fun p hp => ?_, ?_, D'.g0, D'.fr, D'.kp, fun p hp => ?_, D'.al⟩, D'.cb, D'.ns, D'.gL, fun p hp => ?_, D'.Lr⟩
  · rcases List.mem_cons.mp hp with rfl | hp
    · exact ⟨⟨o, e, i⟩, gn⟩
    · exact D'.ow p hp
  · rw [List.map_cons, List.nodup_cons]
    refine ⟨fun q => ?_, D.nd⟩
    obtain ⟨p, hp, q'⟩ := List.mem_map.mp q
    obtain ⟨o', e', _⟩ := (D.ow p hp).1
    rw [q', hn] at e'; cases e'
  · rcases List.mem_cons.mp hp with rfl | hp
    · exact .inr (D.al.none hn)
    · exact D.os p hp
  · rcases List.mem_cons.mp hp with rfl | hp
    · intro q
      obtain ⟨o', e'⟩ := D.ns.live
      rw [← q, hn] at e'; cases e'
    · exact D.oL p hp
theorem St.push (D : St c r g own L loc h) (hf : o.isFreed = false) (i : x.is g o) : St c r g ((h.objs.size, x) :: own) L loc (h.push o) :=
  D.adopt (.push D.gh) (Heap.get?_push_self_none h) (FB.none_of D.gh (Heap.get?_push_self_none h)) (Heap.get?_push_size _ hf) i
theorem St.sub (D : St c r g own L loc h) (hs : ∀ p ∈ own', p ∈ own) (nd : (own'.map (·.1)).Nodup) : St c r g own' L loc h :=
  ⟨⟨D.gh, fun p hp => D.ow p (hs p hp), nd, D.g0, D.fr, D.kp, fun p hp => D.os p (hs p hp), D.al⟩, D.cb, D.ns, D.gL, fun p hp => D.oL p (hs p hp), D.Lr⟩
theorem St.tail {p : Addr × OC} (D : St c r g (p :: own) L loc h) : St c r g own L loc h := D.sub (fun _ h => .tail _ h) (List.nodup_cons.mp D.nd).2
theorem St.get (D : St c r g own L loc h) (hm : (a, x) ∈ own) : ∃ o, h.get? a = some o ∧ x.is g o := (D.ow _ hm).1
theorem St.weak (D : St c r g own L loc h) (w : ∀ x d, loc'.lookup x = some d → loc.lookup x = some d) : St c r g own L loc' h :=
  ⟨D.toRet, D.cb, let ⟨m, n, k⟩ := D.ns; ⟨m, n, fun x d e => k x d (w x d e)⟩, D.gL, D.oL, D.Lr⟩
theorem St.none_of (D : St c r g own L loc h) (hn : h.get? a = none) : r.h.get? a = none := D.al.none hn
end
inductive Up (d : Addr) (o o' : OC) : Led → Led → Prop
  | head {r} : Up d o o' ((d, o) :: r) ((d, o') :: r)
  | tail {p r r'} : Up d o o' r r' → Up d o o' (p :: r) (p :: r')
theorem Up.split {d : Addr} {o o' : OC} {l l' : Led} (u : Up d o o' l l') : ∃ pre post, l = pre ++ (d, o) :: post ∧ l' = pre ++ (d, o') :: post := by
  induction u with
  | head => exact ⟨[], _, rfl, rfl⟩
  | tail _ ih => obtain ⟨p, q, rfl, rfl⟩ := ih; exact ⟨_ :: p, q, rfl, rfl⟩
theorem Up.mem {d : Addr} {o o' : OC} {l l' : Led} (u : Up d o o' l l') : (d, o) ∈ l := by
  obtain ⟨p, q, rfl, rfl⟩ := u.split; simp
theorem Up.keys {d : Addr} {o o' : OC} {l l' : Led} (u : Up d o o' l l') : l'.map (·.1) = l.map (·.1) := by
  obtain ⟨p, q, rfl, rfl⟩ := u.split; simp
section
variable {c : GC} {r : Rec} {g : FB} {own own' : Led} {L d : Addr} {loc loc' : Loc} {h h' : Heap} {o : Obj} {x x' : OC}
theorem St.upK (D : St c r g own L loc h) (U : Up d x x' own own') (hk : ∀ b o, b ≠ d → h.get? b = some o → h'.get? b = some o) (ho : h'.get? d = some o) (i : x'.is g o) : St c r g own' L loc h' := by
  have z := D.ow _ U.mem
  have zL := D.oL _ U.mem
  have ks := U.keys
  have nd := D.nd
  have os := D.os
  have oL := D.oL
  have ow := D.ow
  obtain ⟨pre, post, rfl, rfl⟩ := U.split
  rw [List.map_append, List.map_cons] at nd
  have nd' := List.nodup_append.mp nd
  have ne : ∀ p, p ∈ pre ∨ p ∈ post → p.1 ≠ d := by
    rintro p (hp | hp) e
    · exact nd'.2.2 p.1 (List.mem_map_of_mem hp) d (.head _) e
    · refine (List.nodup_cons.mp nd'.2.1).1 ?_
      rw [← e]; exact List.mem_map_of_mem (f := (·.1)) hp
  have cases' : ∀ p ∈ pre ++ (d, x') :: post, p = (d, x') ∨ ((p ∈ pre ∨ p ∈ post) ∧ p ∈ pre ++ (d, x) :: post) := fun p hp => by
    rcases List.mem_append.mp hp with hp | hp
    · exact .inr ⟨.inl hp, List.mem_append_left _ hp⟩
    · rcases List.mem_cons.mp hp with rfl | hp
      · exact .inl rfl
      · exact .inr ⟨.inr hp, List.mem_append_right _ (.tail _ hp)⟩
  refine ⟨⟨fun b o e => ?_, fun p hp => ?_, ks ▸ D.nd, D.g0, D.fr, fun b o hb e => ?_, fun p hp => ?_, D.al.trans fun b o' e => ?_⟩, D.cb, D.ns.at' .rfl (fun o e => hk _ _ (Ne.symm zL) e), D.gL, fun p hp => ?_, D.Lr⟩
  · exact hk _ _ (fun q => by rw [q, z.2] at e; cases e) (D.gh _ _ e)
  · rcases cases' p hp with rfl | ⟨q, hp'⟩
    · exact ⟨⟨o, ho, i⟩, z.2⟩
    · have y := ow p hp'
      obtain ⟨o', e, i'⟩ := y.1
      exact ⟨⟨o', hk _ _ (ne p q) e, i'⟩, y.2⟩
  · refine hk _ _ (fun q => ?_) (D.kp b o hb e)
    subst q
    rcases os _ (List.mem_append_right _ (.head _)) with y | y
    · exact hb y
    · exact absurd (e.symm.trans y) (by simp)
  · rcases cases' p hp with rfl | ⟨_, hp'⟩
    · exact os (d, x) (List.mem_append_right _ (.head _))
    · exact os p hp'
  · by_cases q : b = d
    · subst q; exact ⟨o, ho⟩
    · exact ⟨o', hk _ _ q e⟩
  · rcases cases' p hp with rfl | ⟨_, hp'⟩
    · exact zL
    · exact oL p hp'
theorem St.up (D : St c r g own L loc h) (U : Up d x x' own own') (hs : Heap.SameBut d h h') (ho : h'.get? d = some o) (i : x'.is g o) : St c r g own' L loc h' :=
  D.upK U (fun b o q e => (hs.2 b q).trans e) ho i
theorem St.freeze (D : St c r g own L loc h) (S : Sel own [(d, x)] own') (hd : r.h.get? d = none) : ∃ o', x.is g o' ∧ St c r (g.put d o') own' L loc h ∧ Sub g (g.put d o') ∧ (g.put d o') d = some o' := by
  have hm := S.memL.1 _ (.head _)
  obtain ⟨⟨o, e, i⟩, gn⟩ := D.ow _ hm
  obtain ⟨_, nd, ap⟩ := S.nd D.nd
  have sb : Sub g (g.put d o) := FB.sub_put gn
  refine ⟨o, i, ⟨⟨fun b o' e' => ?_, fun p hp => ?_, nd, D.g0.trans sb, fun b o' e' => ?_, D.kp, fun p hp => D.os p (S.memL.2 p hp), D.al⟩, fun b o' e' => sb _ _ (D.cb b o' e'), D.ns.at' sb fun _ e => e, ?_, fun p hp => D.oL p (S.memL.2 p hp), D.Lr⟩, sb, FB.put_self⟩
  all_goals try unfold FB.put at *
  · split at e'
    · next q => cases e'; rw [q]; exact e
    · exact D.gh _ _ e'
  · have y := D.ow p (S.memL.2 p hp)
    refine ⟨let ⟨o', e', i'⟩ := y.1; ⟨o', e', i'.mono sb⟩, ?_⟩
    rw [if_neg (Ne.symm (ap _ (.head _) p hp))]; exact y.2
  · split at e'
    · next q =>
      subst q
      exact .inr hd
    · exact D.fr _ _ e'
  · rw [if_neg (Ne.symm (D.oL _ hm))]; exact D.gL
end
structure Ev (c : GC) {α : Type} (A : Around) (t : Sem α) (g : FB) (h : Heap) (P : FB → Heap → α → Prop) : Prop where
  go : ∀ g₁ h₁, Gr g h g₁ h₁ → ∀ (Q : α → Heap → Prop) (E : Value → Heap → Prop), (∀ v g₂ h₂, Gr g₁ h₁ g₂ h₂ → P g₂ h₂ v → Q v h₂) → Wp c A t Q E h₁
noncomputable abbrev EvD (c : GC) (A : Around) (env : Env) (e : Expr) (g : FB) (h : Heap) (d : Dt) : Prop := Ev c A (eval e env) g h fun g' _ v => Den g' v d
noncomputable abbrev EvB (c : GC) (A : Around) (env : Env) (e : Expr) (g : FB) (h : Heap) (b : Bool) : Prop := Ev c A (isTrue e env (eval e env)) g h fun _ _ v => v = b
section
variable {c : GC} {α β : Type} {A : Around} {g g' : FB} {h h' : Heap} {P : FB → Heap → α → Prop}
theorem Ev.up {t : Sem α} (x : Ev c A t g h P) (G : Gr g h g' h') : Ev c A t g' h' P := ⟨fun g₁ h₁ G₁ => x.go g₁ h₁ (G.trans G₁)⟩
theorem Ev.bind {t : Sem α} {f : α → Sem β} {R : FB → Heap → β → Prop} (x : Ev c A t g h P) (k : ∀ v g' h', Gr g h g' h' → P g' h' v → Ev c A (f v) g' h' R) : Ev c A (t >>= f) g h R :=
  ⟨fun g₁ h₁ G Q _ q => Wp_bind (x.go g₁ h₁ G _ _ fun v g₂ h₂ G₂ p => (k v g₂ h₂ (G.trans G₂) p).go g₂ h₂ G₂.here _ _ fun w g₃ h₃ G₃ r => q w g₃ h₃ (G₂.trans G₃) r)⟩
theorem Ev.imp {t : Sem α} {R : FB → Heap → α → Prop} (x : Ev c A t g h P) (k : ∀ v g' h', Gr g h g' h' → P g' h' v → R g' h' v) : Ev c A t g h R :=
  ⟨fun g₁ h₁ G Q E q => x.go g₁ h₁ G Q E fun v g₂ h₂ G₂ p => q v g₂ h₂ G₂ (k v g₂ h₂ (G.trans G₂) p)⟩
theorem Ev.pure {a : α} (k : ∀ g' h', Gr g h g' h' → P g' h' a) : Ev c A (Pure.pure a) g h P := ⟨fun g₁ h₁ G _ _ q => Wp_pure (q a g₁ h₁ G.here (k g₁ h₁ G))⟩
theorem Ev.eq {t t' : Sem α} (e : t = t') (x : Ev c A t' g h P) : Ev c A t g h P := e ▸ x
theorem Ev.of {t : Sem α} (k : ∀ g₁ (s : Shared), Gr g h g₁ s.heap → ∀ (Q : α → Shared → Prop) (E : Value → Shared → Prop), (∀ v tk, P g₁ s.heap v → Q v { s with toks := tk }) → wpAny (Mo c) A t Q E s) : Ev c A t g h P :=
  ⟨fun g₁ h₁ G Q E q => ⟨fun s hs hr => by subst hs; exact k g₁ s G _ _ fun v tk p => ⟨q v g₁ s.heap G.here p, hr⟩⟩⟩
theorem Ev.ofG {t : Sem α} (k : ∀ g₁ (s : Shared), Gr g h g₁ s.heap → ∀ (Q : α → Shared → Prop) (E : Value → Shared → Prop), (∀ v h' tk g₂, Gr g₁ s.heap g₂ h' → P g₂ h' v → Q v { s with heap := h', toks := tk }) → wpAny (Mo c) A t Q E s) : Ev c A t g h P :=
  ⟨fun g₁ h₁ G Q E q => ⟨fun s hs hr => by subst hs; exact k g₁ s G _ _ fun v h' tk g₂ G₂ p => ⟨q v g₂ h' G₂ p, hr⟩⟩⟩
theorem Ev.wp {r : Rec} {own : Led} {L : Addr} {loc : Loc} {t : Sem α} {Q : α → Heap → Prop} {E : Value → Heap → Prop} (x : Ev c A t g h P) (D : St c r g own L loc h)
    (k : ∀ v g' h', St c r g' own L loc h' → Gr g h g' h' → P g' h' v → Q v h') : Wp c A t Q E h :=
  x.go g h D.gr Q E fun v g₂ h₂ G p => k v g₂ h₂ (D.grow G) G p
end
theorem Wp.wpAny_of {c : GC} {α : Type} {A : Around} {t : Sem α} {E : Value → Heap → Prop} {h : Heap} {Q : α → Heap → Prop} (x : Wp c A t Q E h) {s : Shared} (hs : s.heap = h) (hr : Rest c s) {Q' : α → Shared → Prop}
    (k : ∀ a s', Q a s'.heap → Rest c s' → Q' a s') : wpAny (Mo c) A t Q' (fun e s' => E e s'.heap ∧ Rest c s') s := wpAny_mono (x.run s hs hr) (fun _ _ y => k _ _ y.1 y.2) fun _ _ y => y
section
variable {c : GC} {A : Around} {env : Env} {E : Value → Heap → Prop} {h : Heap} {g : FB}
theorem Wp_BinOp {l op r pos} {Q : Value → Heap → Prop} (x : Wp c A (eval l env) (fun a h₁ => Wp c A (eval r env) (fun b h₂ => Wp c A (binaryOp op a b) Q E h₂) E h₁) E h) : Wp c A (eval (.BinOp l op r pos) env) Q E h :=
  ⟨fun s hs hr => wpAny_BinOp (x.wpAny_of hs hr fun a s₁ y r₁ => y.wpAny_of rfl r₁ fun b s₂ z r₂ => z.run s₂ rfl r₂)⟩
theorem Ev_BinOp {l op r pos} {d e : Dt} {P : FB → Heap → Value → Prop} (x : EvD c A env l g h d) (y : EvD c A env r g h e)
    (k : ∀ v w g' h', Gr g h g' h' → Den g' v d → Den g' w e → Ev c A (binaryOp op v w) g' h' P) : Ev c A (eval (.BinOp l op r pos) env) g h P :=
  ⟨fun g₁ h₁ G Q E q => Wp_BinOp (x.go g₁ h₁ G _ _ fun v g₂ h₂ G₂ p => y.go g₂ h₂ (G.trans G₂) _ _ fun w g₃ h₃ G₃ p₃ => (k v w g₃ h₃ ((G.trans G₂).trans G₃) (p.mono G₃.sub) p₃).go g₃ h₃ G₃.here _ _ fun u g₄ h₄ G₄ p₄ => q u g₄ h₄ ((G₂.trans G₃).trans G₄) p₄)⟩
theorem ev_add_int {a b : Int} {t u : Tok} : Ev c A (binaryOp .Add (.int a t) (.int b u)) g h fun g' _ v => Den g' v (.int (a + b)) := .of fun _ s _ _ _ q => PyProof.Rows.add_int (q (.int (a + b) s.toks) (s.toks + 1) (.int _ _))
theorem ev_sub_int {a b : Int} {t u : Tok} : Ev c A (binaryOp .Sub (.int a t) (.int b u)) g h fun g' _ v => Den g' v (.int (a - b)) := .of fun _ s _ _ _ q => PyProof.Rows.sub_int (q (.int (a - b) s.toks) (s.toks + 1) (.int _ _))
theorem ev_mul_int {a b : Int} {t u : Tok} (hm : IntMulOk a b) : Ev c A (binaryOp .Mult (.int a t) (.int b u)) g h fun g' _ v => Den g' v (.int (a * b)) := .of fun _ s _ _ _ q => PyProof.Rows.mul_int (q (.int (a * b) s.toks) (s.toks + 1) (.int _ _)) hm
theorem ev_mod_int {a b : Int} {t u : Tok} (hb : b ≠ 0) : Ev c A (binaryOp .Mod (.int a t) (.int b u)) g h fun g' _ v => Den g' v (.int (a.fmod b)) := .of fun _ s _ _ _ q => PyProof.Rows.mod_int hb (q (.int (a.fmod b) s.toks) (s.toks + 1) (.int _ _))
theorem ev_fdiv_int {a b : Int} {t u : Tok} (hb : b ≠ 0) (hp : Builtin.divisionGoesByPylong a b = false) : Ev c A (binaryOp .FloorDiv (.int a t) (.int b u)) g h fun g' _ v => Den g' v (.int (a.fdiv b)) := .of fun _ s _ _ _ q => PyProof.Rows.floordiv_int hb (q (.int (a.fdiv b) s.toks) (s.toks + 1) (.int _ _)) (.inl hp)
theorem ev_and_int {a b : Int} {t u : Tok} : Ev c A (binaryOp .BitAnd (.int a t) (.int b u)) g h fun g' _ v => Den g' v (.int (Builtin.bitAnd a b)) := .of fun _ s _ _ _ q => PyProof.Rows.and_int (q (.int (Builtin.bitAnd a b) s.toks) (s.toks + 1) (.int _ _))
theorem ev_xor_int {a b : Int} {t u : Tok} : Ev c A (binaryOp .BitXor (.int a t) (.int b u)) g h fun g' _ v => Den g' v (.int (Builtin.bitXor a b)) := .of fun _ s _ _ _ q => PyProof.Rows.xor_int (q (.int (Builtin.bitXor a b) s.toks) (s.toks + 1) (.int _ _))
theorem ev_shl_int {a n : Int} {t u : Tok} (hn : 0 ≤ n) (hn2 : n ≤ 1000000) (ha : a.natAbs < 2 ^ 64) : Ev c A (binaryOp .LShift (.int a t) (.int n u)) g h fun g' _ v => Den g' v (.int (a * 2 ^ n.toNat)) := .of fun _ s _ _ _ q => PyProof.Rows.lshift_int_small hn hn2 ha (q (.int (a * 2 ^ n.toNat) s.toks) (s.toks + 1) (.int _ _))
theorem ev_shr_int {a n : Int} {t u : Tok} (hn : 0 ≤ n) : Ev c A (binaryOp .RShift (.int a t) (.int n u)) g h fun g' _ v => Den g' v (.int (a.fdiv (2 ^ n.toNat))) := .of fun _ s _ _ _ q => PyProof.Rows.rshift_int hn (q (.int (a.fdiv (2 ^ n.toNat)) s.toks) (s.toks + 1) (.int _ _))
theorem ev_pow_int {a n : Int} {t u : Tok} (hn : 0 ≤ n) (hsz : (Builtin.Int.intBits a : Int) * n ≤ 2 ^ 27) : Ev c A (binaryOp .Pow (.int a t) (.int n u)) g h fun g' _ v => Den g' v (.int (a ^ n.toNat)) := .of fun _ s _ _ _ q => PyProof.Rows.pow_int hn hsz (q (.int (a ^ n.toNat) s.toks) (s.toks + 1) (.int _ _))
section
variable {l r : Expr} {pos : Pos} {i j : Int}
theorem eAdd (x : EvD c A env l g h (.int i)) (y : EvD c A env r g h (.int j)) : EvD c A env (.BinOp l .Add r pos) g h (.int (i + j)) :=
  Ev_BinOp x y fun v w _ _ _ p q => by obtain ⟨_, rfl⟩ := p.int_inv; obtain ⟨_, rfl⟩ := q.int_inv; exact ev_add_int
theorem eSub (x : EvD c A env l g h (.int i)) (y : EvD c A env r g h (.int j)) : EvD c A env (.BinOp l .Sub r pos) g h (.int (i - j)) :=
  Ev_BinOp x y fun v w _ _ _ p q => by obtain ⟨_, rfl⟩ := p.int_inv; obtain ⟨_, rfl⟩ := q.int_inv; exact ev_sub_int
theorem eMul (x : EvD c A env l g h (.int i)) (y : EvD c A env r g h (.int j)) (hm : IntMulOk i j) : EvD c A env (.BinOp l .Mult r pos) g h (.int (i * j)) :=
  Ev_BinOp x y fun v w _ _ _ p q => by obtain ⟨_, rfl⟩ := p.int_inv; obtain ⟨_, rfl⟩ := q.int_inv; exact ev_mul_int hm
theorem eMod (x : EvD c A env l g h (.int i)) (y : EvD c A env r g h (.int j)) (hb : j ≠ 0) : EvD c A env (.BinOp l .Mod r pos) g h (.int (i.fmod j)) :=
  Ev_BinOp x y fun v w _ _ _ p q => by obtain ⟨_, rfl⟩ := p.int_inv; obtain ⟨_, rfl⟩ := q.int_inv; exact ev_mod_int hb
theorem eDiv (x : EvD c A env l g h (.int i)) (y : EvD c A env r g h (.int j)) (hb : j ≠ 0) (hp : Builtin.divisionGoesByPylong i j = false) : EvD c A env (.BinOp l .FloorDiv r pos) g h (.int (i.fdiv j)) :=
  Ev_BinOp x y fun v w _ _ _ p q => by obtain ⟨_, rfl⟩ := p.int_inv; obtain ⟨_, rfl⟩ := q.int_inv; exact ev_fdiv_int hb hp
theorem eAnd (x : EvD c A env l g h (.int i)) (y : EvD c A env r g h (.int j)) : EvD c A env (.BinOp l .BitAnd r pos) g h (.int (Builtin.bitAnd i j)) :=
  Ev_BinOp x y fun v w _ _ _ p q => by obtain ⟨_, rfl⟩ := p.int_inv; obtain ⟨_, rfl⟩ := q.int_inv; exact ev_and_int
theorem eXor (x : EvD c A env l g h (.int i)) (y : EvD c A env r g h (.int j)) : EvD c A env (.BinOp l .BitXor r pos) g h (.int (Builtin.bitXor i j)) :=
  Ev_BinOp x y fun v w _ _ _ p q => by obtain ⟨_, rfl⟩ := p.int_inv; obtain ⟨_, rfl⟩ := q.int_inv; exact ev_xor_int
theorem eShl (x : EvD c A env l g h (.int i)) (y : EvD c A env r g h (.int j)) (hn : 0 ≤ j) (hn2 : j ≤ 1000000) (ha : i.natAbs < 2 ^ 64) : EvD c A env (.BinOp l .LShift r pos) g h (.int (i * 2 ^ j.toNat)) :=
  Ev_BinOp x y fun v w _ _ _ p q => by obtain ⟨_, rfl⟩ := p.int_inv; obtain ⟨_, rfl⟩ := q.int_inv; exact ev_shl_int hn hn2 ha
theorem eShr (x : EvD c A env l g h (.int i)) (y : EvD c A env r g h (.int j)) (hn : 0 ≤ j) : EvD c A env (.BinOp l .RShift r pos) g h (.int (i.fdiv (2 ^ j.toNat))) :=
  Ev_BinOp x y fun v w _ _ _ p q => by obtain ⟨_, rfl⟩ := p.int_inv; obtain ⟨_, rfl⟩ := q.int_inv; exact ev_shr_int hn
theorem ePow (x : EvD c A env l g h (.int i)) (y : EvD c A env r g h (.int j)) (hn : 0 ≤ j) (hsz : (Builtin.Int.intBits i : Int) * j ≤ 2 ^ 27) : EvD c A env (.BinOp l .Pow r pos) g h (.int (i ^ j.toNat)) :=
  Ev_BinOp x y fun v w _ _ _ p q => by obtain ⟨_, rfl⟩ := p.int_inv; obtain ⟨_, rfl⟩ := q.int_inv; exact ev_pow_int hn hsz
theorem eInt {k : Nat} : EvD c A env (.Constant (.int i) k pos) g h (.int i) := .of fun _ _ _ _ _ q => wpAny_Constant_int (q _ _ (.int _ _))
theorem eStr {k : Nat} {x : Str} : EvD c A env (.Constant (.str x) k pos) g h (.str x) := .of fun _ _ _ _ _ q => Constant_str (q _ _ (.str _ _))
theorem eNone {k : Nat} : EvD c A env (.Constant .none k pos) g h .none := .of fun _ s _ _ _ q => by rw [eval_Constant]; exact wpAny_pure (q _ s.toks .none)
theorem eNeg {x : Expr} (p : EvD c A env x g h (.int i)) : EvD c A env (.UnaryOp .USub x pos) g h (.int (-i)) := by
  show Ev c A (do let v ← eval x env; standAt pos; holding [v] (unaryOp .USub v)) g h _
  refine p.bind fun v g' h' _ d => ?_
  obtain ⟨_, rfl⟩ := d.int_inv
  exact .of fun _ _ _ _ _ q => wpAny_bind (wpAny_standAt (wpAny_holding (PyProof.Rows.neg_int (q _ _ (.int _ _)))))
theorem eInv {x : Expr} (p : EvD c A env x g h (.int i)) : EvD c A env (.UnaryOp .Invert x pos) g h (.int (Builtin.bitNot i)) := by
  show Ev c A (do let v ← eval x env; standAt pos; holding [v] (unaryOp .Invert v)) g h _
  refine p.bind fun v g' h' _ d => ?_
  obtain ⟨_, rfl⟩ := d.int_inv
  exact .of fun _ _ _ _ _ q => wpAny_bind (wpAny_standAt (wpAny_holding (PyProof.Rows.invert_int (q _ _ (.int _ _)))))
end
end
section
variable {c : GC} {A : Around} {env : Env} {r : Rec} {own : Led} {L a : Addr} {loc : Loc} {h : Heap} {g : FB} {x : Str} {d : Dt} {pos : Pos}
theorem eLoc (D : St c r g own L loc h) (e : loc.lookup x = some d) (hL : env.locals = L) (hk : env.scope.kind = .function) (hx : env.kindOf x = some .local) (hd : (x == ("__debug__" : Str)) = false) : EvD c A env (.Name x pos) g h d :=
  .of fun g₁ s G _ _ q => by
    subst hL
    obtain ⟨m, n, k⟩ := (D.grow G).ns
    obtain ⟨v, a, b⟩ := k x d e
    exact wpAny_Name (wpAny_loadName_local hk hx n a (q v s.toks b)) hd
noncomputable def CellAt (g : FB) (h : Heap) (a : Addr) (d : Dt) : Prop := ∃ v, h.IsCell a (some v) ∧ Den g v d
theorem CellAt.gr {g' : FB} {h' : Heap} (x : CellAt g h a d) (G : Gr g h g' h') : CellAt g' h' a d := let ⟨v, e, k⟩ := x; ⟨v, e.keeps G.kp, k.mono G.sub⟩
theorem St.cellAt (D : St c r g own L loc h) (hm : (a, .cell (some d)) ∈ own) : CellAt g h a d := by
  obtain ⟨o, e, v, q, k⟩ := D.get hm
  exact ⟨v, ⟨o, e, q⟩, k⟩
theorem eCell (C : CellAt g h a d) (hc : env.cells.lookup x = some a) (hk : env.scope.kind = .function) (hx : env.kindOf x = some .cell) (hd : (x == ("__debug__" : Str)) = false) : EvD c A env (.Name x pos) g h d :=
  .of fun g₁ s G _ _ q => by
    obtain ⟨v, e, k⟩ := C.gr G
    exact wpAny_Name (wpAny_loadName_cell hk hx hc e (q v s.toks k)) hd
theorem eFree (C : CellAt g h a d) (hc : env.cells.lookup x = some a) (hk : env.scope.kind = .function) (hx : env.kindOf x = some .free) (hd : (x == ("__debug__" : Str)) = false) (hn : (x == ("__classdict__" : Str)) = false) : EvD c A env (.Name x pos) g h d :=
  .of fun g₁ s G _ _ q => by
    obtain ⟨v, e, k⟩ := C.gr G
    exact wpAny_Name (wpAny_loadName_free hk hx hc e (q v s.toks k) hn) hd
noncomputable def Bas (c : GC) (g : FB) (h : Heap) : Prop := (∀ a o, c.b.get? a = some o → g a = some o) ∧ ∀ a o, g a = some o → h.get? a = some o
theorem St.bas (D : St c r g own L loc h) : Bas c g h := ⟨D.cb, D.gh⟩
theorem Pre.bas (P : Pre c g own h) : Bas c g h := ⟨P.cb, P.gh⟩
theorem Bas.gr {g' : FB} {h' : Heap} (B : Bas c g h) (G : Gr g h g' h') : Bas c g' h' := ⟨fun a o e => G.sub _ _ (B.1 a o e), G.gh⟩
theorem Bas.keep (B : Bas c g h) : ∀ a o, c.b.get? a = some o → h.get? a = some o := fun a o e => B.2 _ _ (B.1 a o e)
theorem evGlob (B : Bas c g h) {v : Value} (e : nsIn (hd.heap_1 c.w.params) mainGlobals x = some (some v)) (hg : env.globals = mainGlobals) (hk : env.scope.kind = .function) (hx : env.kindOf x = some .globalImplicit) (hd : (x == ("__debug__" : Str)) = false) :
    Ev c A (eval (.Name x pos) env) g h fun _ _ w => w = v :=
  .of fun g₁ s G _ _ q => by
    have T := topRead_of c.T
    exact Name_function_global hk hx (loadGlobal_global (hg ▸ T.g.keeps (B.gr G).keep) (mg_of c.X T.g e) (q v s.toks rfl)) hd
theorem evBuilt (B : Bas c g h) {v : Value} (e : nsIn (hd.heap_1 c.w.params) mainGlobals x = some none) (hv : bootBuiltins x = some v) (hn : x ≠ "__name__") (hg : env.globals = mainGlobals) (hb : env.builtins = builtinsNs) (hk : env.scope.kind = .function) (hx : env.kindOf x = some .globalImplicit) (hd : (x == ("__debug__" : Str)) = false) :
    Ev c A (eval (.Name x pos) env) g h fun _ _ w => w = v :=
  .of fun g₁ s G _ _ q => by
    have T := topRead_of c.T
    exact Name_function_global hk hx (loadGlobal_builtin (hg ▸ T.g.keeps (B.gr G).keep) (mg_none_of c.X T.g e) (hb ▸ T.b.keeps (B.gr G).keep) ((T.builtins x hn).trans hv) (q v s.toks rfl)) hd
theorem eGlob (B : Bas c g h) {v : Value} (e : nsIn (hd.heap_1 c.w.params) mainGlobals x = some (some v)) (dv : ∀ g, Den g v d) (hg : env.globals = mainGlobals) (hk : env.scope.kind = .function) (hx : env.kindOf x = some .globalImplicit) (hd : (x == ("__debug__" : Str)) = false) :
    EvD c A env (.Name x pos) g h d := (evGlob B e hg hk hx hd).imp fun v g' _ _ q => q ▸ dv g'
end
section
variable {c : GC} {α : Type} {A : Around} {g : FB} {h : Heap} {P : FB → Heap → α → Prop}
theorem Ev_stand {pos : Pos} : Ev c A (standAt pos) g h fun _ _ _ => True := .of fun _ s _ _ _ q => wpAny_standAt (q () s.toks trivial)
theorem Ev.hold {vs : List Value} {t : Sem α} (x : Ev c A t g h P) : Ev c A (holding vs t) g h P := ⟨fun g₁ h₁ G Q E q => ⟨fun s hs hr => wpAny_holding ((x.go g₁ h₁ G Q E q).run s hs hr)⟩⟩
theorem Ev.oper {vs : List Value} {t : Sem Value} {P : FB → Heap → Value → Prop} (x : Ev c A t g h P) : Ev c A (operate vs t) g h P := ⟨fun g₁ h₁ G Q E q => ⟨fun s hs hr => wpAny_operating ((x.go g₁ h₁ G Q E q).run s hs hr)⟩⟩
theorem Ev_release {vs keep : List Value} : Ev c A (release vs keep) g h fun _ _ _ => True := .of fun _ s _ _ _ q => wpAny_release (q () s.toks trivial)
theorem Ev.stand {pos : Pos} {f : Unit → Sem α} (x : Ev c A (f ()) g h P) : Ev c A (standAt pos >>= f) g h P := Ev_stand.bind fun _ _ _ G _ => x.up G
end
section
variable {c : GC} {A : Around} {env : Env} {g : FB} {h : Heap} {l r : Expr} {pos : Pos} {i j : Int} {d e : Dt} {b : Bool}
noncomputable abbrev CmpB (c : GC) (A : Around) (op : CmpOp) (v w : Value) (g : FB) (h : Heap) (b : Bool) : Prop := Ev c A (compareOp op v w) g h fun _ _ u => u = .bool b
theorem cmp_lt {t u : Tok} : CmpB c A .Lt (.int i t) (.int j u) g h (decide (i < j)) := .of fun _ s _ _ _ q => PyProof.Rows.lt_int (q _ s.toks rfl)
theorem cmp_le {t u : Tok} : CmpB c A .LtE (.int i t) (.int j u) g h (decide (i ≤ j)) := .of fun _ s _ _ _ q => PyProof.Rows.le_int (q _ s.toks rfl)
theorem cmp_gt {t u : Tok} : CmpB c A .Gt (.int i t) (.int j u) g h (decide (j < i)) := .of fun _ s _ _ _ q => PyProof.Rows.gt_int (q _ s.toks rfl)
theorem cmp_ge {t u : Tok} : CmpB c A .GtE (.int i t) (.int j u) g h (decide (j ≤ i)) := .of fun _ s _ _ _ q => PyProof.Rows.ge_int (q _ s.toks rfl)
theorem cmp_eq {t u : Tok} : CmpB c A .Eq (.int i t) (.int j u) g h (i == j) := .of fun _ s _ _ _ q => PyProof.Rows.eq_int (q _ s.toks rfl)
theorem cmp_ne {t u : Tok} : CmpB c A .NotEq (.int i t) (.int j u) g h (i != j) := .of fun _ s _ _ _ q => PyProof.Rows.ne_int (q _ s.toks rfl)
theorem cmp_eqS {x y : Str} {t u : Tok} : CmpB c A .Eq (.str x t) (.str y u) g h (x == y) := .of fun _ s _ _ _ q => PyProof.Rows.eq_str (q _ s.toks rfl)
theorem cmp_isN {v : Value} : CmpB c A .Is v .none g h (v == .none) := .of fun _ s _ _ _ q => PyProof.Rows.is_none_gen (q _ s.toks rfl)
theorem cmp_notN {v : Value} : CmpB c A .IsNot v .none g h (!(v == .none)) := .of fun _ s _ _ _ q => PyProof.Rows.isnot_none_gen (q _ s.toks rfl)
theorem ev_truthy_bool : Ev c A (truthy (.bool b)) g h fun _ _ v => v = b := .of fun _ s _ _ _ q => wpAny_truthy_bool (q _ s.toks rfl)
theorem bCmp {op : CmpOp} (x : EvD c A env l g h d) (y : EvD c A env r g h e) (k : ∀ v w g' h', Gr g h g' h' → Den g' v d → Den g' w e → CmpB c A op v w g' h' b)
    (hm : behindInMarks op r = false) : EvB c A env (.Compare l [op] [r] pos) g h b := by
  refine .eq (isTrue_Compare1 ..) (x.bind fun v g₁ h₁ G₁ p => ?_)
  rw [markedBehindIn_of_false hm]
  refine (y.up G₁).hold.bind fun w g₂ h₂ G₂ q => ?_
  refine .stand ((k v w g₂ h₂ (G₁.trans G₂) (p.mono G₂.sub) q).oper.bind fun u g₃ h₃ G₃ z => ?_)
  subst z
  exact ev_truthy_bool.hold
theorem bLt (x : EvD c A env l g h (.int i)) (y : EvD c A env r g h (.int j)) (hm : behindInMarks .Lt r = false) : EvB c A env (.Compare l [.Lt] [r] pos) g h (decide (i < j)) :=
  bCmp x y (fun v w _ _ _ p q => by obtain ⟨_, rfl⟩ := p.int_inv; obtain ⟨_, rfl⟩ := q.int_inv; exact cmp_lt) hm
theorem bLe (x : EvD c A env l g h (.int i)) (y : EvD c A env r g h (.int j)) (hm : behindInMarks .LtE r = false) : EvB c A env (.Compare l [.LtE] [r] pos) g h (decide (i ≤ j)) :=
  bCmp x y (fun v w _ _ _ p q => by obtain ⟨_, rfl⟩ := p.int_inv; obtain ⟨_, rfl⟩ := q.int_inv; exact cmp_le) hm
theorem bGt (x : EvD c A env l g h (.int i)) (y : EvD c A env r g h (.int j)) (hm : behindInMarks .Gt r = false) : EvB c A env (.Compare l [.Gt] [r] pos) g h (decide (j < i)) :=
  bCmp x y (fun v w _ _ _ p q => by obtain ⟨_, rfl⟩ := p.int_inv; obtain ⟨_, rfl⟩ := q.int_inv; exact cmp_gt) hm
theorem bGe (x : EvD c A env l g h (.int i)) (y : EvD c A env r g h (.int j)) (hm : behindInMarks .GtE r = false) : EvB c A env (.Compare l [.GtE] [r] pos) g h (decide (j ≤ i)) :=
  bCmp x y (fun v w _ _ _ p q => by obtain ⟨_, rfl⟩ := p.int_inv; obtain ⟨_, rfl⟩ := q.int_inv; exact cmp_ge) hm
theorem bEq (x : EvD c A env l g h (.int i)) (y : EvD c A env r g h (.int j)) (hm : behindInMarks .Eq r = false) : EvB c A env (.Compare l [.Eq] [r] pos) g h (i == j) :=
  bCmp x y (fun v w _ _ _ p q => by obtain ⟨_, rfl⟩ := p.int_inv; obtain ⟨_, rfl⟩ := q.int_inv; exact cmp_eq) hm
theorem bNe (x : EvD c A env l g h (.int i)) (y : EvD c A env r g h (.int j)) (hm : behindInMarks .NotEq r = false) : EvB c A env (.Compare l [.NotEq] [r] pos) g h (i != j) :=
  bCmp x y (fun v w _ _ _ p q => by obtain ⟨_, rfl⟩ := p.int_inv; obtain ⟨_, rfl⟩ := q.int_inv; exact cmp_ne) hm
theorem bEqS {x y : Str} (p : EvD c A env l g h (.str x)) (q : EvD c A env r g h (.str y)) (hm : behindInMarks .Eq r = false) : EvB c A env (.Compare l [.Eq] [r] pos) g h (x == y) :=
  bCmp p q (fun v w _ _ _ p q => by obtain ⟨_, rfl⟩ := p.str_inv; obtain ⟨_, rfl⟩ := q.str_inv; exact cmp_eqS) hm
noncomputable def Dt.isNone : Dt → Bool
  | .none => true
  | _ => false
theorem Den.isNone {v : Value} (x : Den g v d) : (v == .none) = d.isNone := by cases x <;> rfl
theorem bIsN {k pos'} (p : EvD c A env l g h d) : EvB c A env (.Compare l [.Is] [.Constant .none k pos'] pos) g h d.isNone :=
  bCmp p eNone (fun v w _ _ _ p q => by cases q.none_inv; rw [← p.isNone]; exact cmp_isN) rfl
theorem bNotN {k pos'} (p : EvD c A env l g h d) : EvB c A env (.Compare l [.IsNot] [.Constant .none k pos'] pos) g h (!d.isNone) :=
  bCmp p eNone (fun v w _ _ _ p q => by cases q.none_inv; rw [← p.isNone]; exact cmp_notN) rfl
theorem bCmp2 {op₁ op₂ : CmpOp} {r₁ r₂ : Expr} {d₁ d₂ : Dt} {b₁ b₂ : Bool} (x : EvD c A env l g h d) (y : EvD c A env r₁ g h d₁) (k₁ : ∀ v w g' h', Gr g h g' h' → Den g' v d → Den g' w d₁ → CmpB c A op₁ v w g' h' b₁)
    (z : b₁ = true → EvD c A env r₂ g h d₂) (k₂ : ∀ v w g' h', Gr g h g' h' → Den g' v d₁ → Den g' w d₂ → CmpB c A op₂ v w g' h' b₂)
    (hm : behindInMarks op₂ r₂ = false) : EvB c A env (.Compare l [op₁, op₂] [r₁, r₂] pos) g h (b₁ && b₂) := by
  refine .eq (show _ = (eval l env >>= fun v => testChain pos v [op₁, op₂] [eval r₁ env, markedBehindIn op₂ r₂ (eval r₂ env)]) from rfl) (x.bind fun v g₁ h₁ G₁ p => ?_)
  rw [markedBehindIn_of_false hm]
  refine .eq (show _ = (do
    let rv ← holding [v] (eval r₁ env)
    standAt pos
    let c ← holding [v, rv] (compareOp op₁ v rv)
    release [v, rv] [c]
    if ← holding [c, rv] (truthy c) then testChain pos rv [op₂] [eval r₂ env] else pure false) from rfl) ?_
  refine (y.up G₁).hold.bind fun w g₂ h₂ G₂ q => .stand ?_
  refine (k₁ v w g₂ h₂ (G₁.trans G₂) (p.mono G₂.sub) q).hold.bind fun u g₃ h₃ G₃ e₃ => ?_
  subst e₃
  refine Ev_release.bind fun _ g₄ h₄ G₄ _ => ev_truthy_bool.hold.bind fun t g₅ h₅ G₅ e₅ => ?_
  subst e₅
  have G := ((G₁.trans G₂).trans (G₃.trans G₄)).trans G₅
  cases t with
  | false => rw [if_neg (by simp)]; exact .pure fun _ _ _ => rfl
  | true =>
    rw [if_pos rfl]
    refine .eq (show _ = (do
      let rv ← holding [w] (eval r₂ env)
      standAt pos
      let c ← operate [w, rv] (compareOp op₂ w rv)
      holding [c] (truthy c)) from rfl) ?_
    refine ((z rfl).up G).hold.bind fun w' g₆ h₆ G₆ q' => .stand ?_
    refine (k₂ w w' g₆ h₆ (G.trans G₆) ((q.mono ((G₃.trans G₄).trans G₅).sub).mono G₆.sub) q').oper.bind fun u g₇ h₇ G₇ e₇ => ?_
    subst e₇
    exact ev_truthy_bool.hold.imp fun v _ _ _ e => by rw [e]; rfl
theorem bNot {x : Expr} (p : EvB c A env x g h b) : EvB c A env (.UnaryOp .Not x pos) g h (!b) :=
  .eq (show _ = (isTrue x env (eval x env) >>= fun b => pure !b) from rfl) (p.bind fun v g' h' _ e => by subst e; exact .pure fun _ _ _ => rfl)
theorem bTrue0 : Ev c A (allTrue .And [] env) g h fun _ _ v => v = true := .eq (show _ = pure true from rfl) (.pure fun _ _ _ => rfl)
theorem bFalse0 : Ev c A (allTrue .Or [] env) g h fun _ _ v => v = false := .eq (show _ = pure false from rfl) (.pure fun _ _ _ => rfl)
theorem bAndC {x : Expr} {rest : List Expr} {b₂ : Bool} (p : EvB c A env x g h b) (q : b = true → Ev c A (allTrue .And rest env) g h fun _ _ v => v = b₂) : Ev c A (allTrue .And (x :: rest) env) g h fun _ _ v => v = (b && b₂) := by
  refine .eq (show _ = (isTrue x env (eval x env) >>= fun b => match BoolOp.And, b with | .And, false => pure false | .Or, true => pure true | _, _ => allTrue .And rest env) from rfl) (p.bind fun v g' h' G e => ?_)
  subst e
  cases v with
  | false => exact .pure fun _ _ _ => rfl
  | true => exact ((q rfl).up G).imp fun v _ _ _ e => by rw [e]; rfl
theorem bOrC {x : Expr} {rest : List Expr} {b₂ : Bool} (p : EvB c A env x g h b) (q : b = false → Ev c A (allTrue .Or rest env) g h fun _ _ v => v = b₂) : Ev c A (allTrue .Or (x :: rest) env) g h fun _ _ v => v = (b || b₂) := by
  refine .eq (show _ = (isTrue x env (eval x env) >>= fun b => match BoolOp.Or, b with | .And, false => pure false | .Or, true => pure true | _, _ => allTrue .Or rest env) from rfl) (p.bind fun v g' h' G e => ?_)
  subst e
  cases v with
  | true => exact .pure fun _ _ _ => rfl
  | false => exact ((q rfl).up G).imp fun v _ _ _ e => by rw [e]; rfl
theorem bBool {op : BoolOp} {es : List Expr} (p : Ev c A (allTrue op es env) g h fun _ _ v => v = b) : EvB c A env (.BoolOp op es pos) g h b := .eq (show _ = allTrue op es env from rfl) p
theorem bVal {x : Expr} (p : EvD c A env x g h d) (k : ∀ v g' h', Gr g h g' h' → Den g' v d → Ev c A (truthy v) g' h' fun _ _ u => u = b)
    (he : isTrue x env (eval x env) = (do let v ← eval x env; standAt x.pos; holding [v] (truthy v))) : EvB c A env x g h b :=
  .eq he (p.bind fun v g₁ h₁ G q => .stand (k v g₁ h₁ G q).hold)
theorem bInt {x : Expr} (p : EvD c A env x g h (.int i)) (he : isTrue x env (eval x env) = (do let v ← eval x env; standAt x.pos; holding [v] (truthy v))) : EvB c A env x g h (i != 0) :=
  bVal p (fun v _ _ _ q => by obtain ⟨_, rfl⟩ := q.int_inv; exact .of fun _ s _ _ _ q => PyProof.Rows.truthy_int (q _ s.toks rfl)) he
theorem bStr {x : Expr} {y : Str} (p : EvD c A env x g h (.str y)) (hf : y.length < 2 ^ 62) (he : isTrue x env (eval x env) = (do let v ← eval x env; standAt x.pos; holding [v] (truthy v))) : EvB c A env x g h (y.length != 0) :=
  bVal p (fun v _ _ _ q => by
    obtain ⟨_, rfl⟩ := q.str_inv
    exact .of fun _ s _ _ _ q => PySem.P.truthy_str (by (first | lia | omega)) (q _ _ (by cases y.length <;> rfl))) he
theorem eIf {P : FB → Heap → Value → Prop} {test body orelse : Expr} (p : EvB c A env test g h b) (x : b = true → Ev c A (eval body env) g h P) (y : b = false → Ev c A (eval orelse env) g h P) : Ev c A (eval (.IfExp test body orelse pos) env) g h P := by
  refine .eq (show _ = (isTrue test env (eval test env) >>= fun b => if b then eval body env else eval orelse env) from rfl) (p.bind fun v g' h' G e => ?_)
  subst e
  cases v with
  | true => rw [if_pos rfl]; exact (x rfl).up G
  | false => rw [if_neg (by simp)]; exact (y rfl).up G
theorem Wp_IfExp {test body orelse : Expr} {Q : Value → Heap → Prop} {E : Value → Heap → Prop}
    (x : Wp c A (isTrue test env (eval test env)) (fun b h' => (b = true → Wp c A (eval body env) Q E h') ∧ (b = false → Wp c A (eval orelse env) Q E h')) E h) : Wp c A (eval (.IfExp test body orelse pos) env) Q E h := by
  refine Wp_eq (show _ = (isTrue test env (eval test env) >>= fun b => if b then eval body env else eval orelse env) from rfl) (Wp_bind (x.imp fun b h' y => ?_))
  cases b with
  | true => rw [if_pos rfl]; exact y.1 rfl
  | false => rw [if_neg (by simp)]; exact y.2 rfl
theorem eOrInt {x y : Expr} {p' : FB → Heap → Value → Prop} (p : EvD c A env x g h (.int i)) (q1 : i ≠ 0 → ∀ g h v, Den g v (.int i) → p' g h v) (q2 : i = 0 → Ev c A (eval y env) g h p') : Ev c A (eval (.BoolOp .Or [x, y] pos) env) g h p' := by
  refine .eq (show _ = (eval x env >>= fun v => do
    standAt pos
    let t ← holding [v] (truthy v)
    match BoolOp.Or, t with
    | .And, false | .Or, true => pure v
    | _, _ => eval y env) from rfl) (p.bind fun v g₁ h₁ G q => .stand ?_)
  have hv := q
  obtain ⟨t, rfl⟩ := q.int_inv
  refine (Ev.hold (P := fun _ _ u => u = (i != 0)) (.of fun _ s _ _ _ q => PyProof.Rows.truthy_int (q _ s.toks rfl))).bind fun u g₂ h₂ G₂ e => ?_
  subst e
  by_cases hi : i = 0
  · rw [show (i != 0) = false by simpa using hi]
    exact (q2 hi).up (G.trans G₂)
  · rw [show (i != 0) = true by simpa using hi]
    exact .pure fun g' h' G' => q1 hi _ _ _ (hv.mono (G₂.trans G').sub)
end
noncomputable def LstAt (g : FB) (h : Heap) (a : Addr) (ds : List Dt) : Prop := ∃ vs n, h.get? a = some (listOf vs.toArray n) ∧ Dens g vs ds
section
variable {c : GC} {A : Around} {env : Env} {g g' : FB} {h h' : Heap} {a : Addr} {ds : List Dt} {d : Dt} {x y : Expr} {pos : Pos} {r : Rec} {own : Led} {L : Addr} {loc : Loc}
theorem LstAt.gr (x : LstAt g h a ds) (G : Gr g h g' h') : LstAt g' h' a ds := let ⟨vs, n, e, k⟩ := x; ⟨vs, n, G.kp _ _ e, k.mono G.sub⟩
theorem St.lstAt (D : St c r g own L loc h) (hm : (a, .lst ds) ∈ own) : LstAt g h a ds := by
  obtain ⟨o, e, vs, n, rfl, k⟩ := D.get hm
  exact ⟨vs, n, e, k⟩
noncomputable abbrev EvL (c : GC) (A : Around) (env : Env) (e : Expr) (g : FB) (h : Heap) (ds : List Dt) : Prop := Ev c A (eval e env) g h fun g' h' v => ∃ a, v = .ref a ∧ LstAt g' h' a ds
theorem lD (p : EvD c A env x g h (.lst ds)) : EvL c A env x g h ds := p.imp fun v g' h' G q => by
  obtain ⟨a, vs, n, rfl, e, k⟩ := q.lst_inv
  exact ⟨a, rfl, vs, n, G.gh _ _ e, k⟩
theorem lR (p : EvD c A env x g h (.ref a)) (q : LstAt g h a ds) : EvL c A env x g h ds := p.imp fun v g' h' G z => ⟨a, z.ref_inv, q.gr G⟩
structure EvN (c : GC) (A : Around) (env : Env) (e : Expr) (g : FB) (h : Heap) (ds : List Dt) : Prop where
  go : ∀ g₁ h₁, Gr g h g₁ h₁ → Ev c A (eval e env) g₁ h₁ fun g' h' v => ∃ a, v = .ref a ∧ h₁.get? a = none ∧ g' a = none ∧ LstAt g' h' a ds
theorem EvN.up (p : EvN c A env x g h ds) (G : Gr g h g' h') : EvN c A env x g' h' ds := ⟨fun g₁ h₁ G₁ => p.go g₁ h₁ (G.trans G₁)⟩
theorem lN (hg : Gr g h g h) (p : EvN c A env x g h ds) : EvL c A env x g h ds := (p.go g h hg).imp fun v g' h' G ⟨a, e, _, _, k⟩ => ⟨a, e, k⟩
theorem eFz (p : EvN c A env x g h ds) : EvD c A env x g h (.lst ds) := ⟨fun g₁ h₁ G Q E q => (p.go g₁ h₁ G).go g₁ h₁ G.here Q E fun v g₂ h₂ G₂ ⟨a, e, hn, gn, vs, n, eo, k⟩ => by
  subst e
  obtain ⟨G₃, sb, e'⟩ := G₂.fz hn gn eo
  exact q _ _ _ G₃ (.lst e' (k.mono sb))⟩
theorem EvN.wp {Q : Value → Heap → Prop} {E : Value → Heap → Prop} (p : EvN c A env x g h ds) (D : St c r g own L loc h)
    (k : ∀ a g' h', St c r g' ((a, .lst ds) :: own) L loc h' → h.get? a = none → Gr g h g' h' → Q (.ref a) h') : Wp c A (eval x env) Q E h :=
  (p.go g h D.gr).go g h D.gr Q E fun v g₂ h₂ G ⟨a, e, hn, gn, vs, n, eo, q⟩ => by
    subst e
    exact k a g₂ h₂ (D.adopt G hn gn eo ⟨vs, n, rfl, q⟩) hn G
theorem Dens.arr {vs : List Value} {k : Nat} {d : Dt} (q : Dens g vs ds) (e : ds[k]? = some d) : ∃ v, vs.toArray[k]? = some v ∧ Den g v d := by
  obtain ⟨v, e', p⟩ := q.get e
  exact ⟨v, by simpa using e', p⟩
theorem Ev_Sub {value slice : Expr} {P₀ P₁ P : FB → Heap → Value → Prop} (x : Ev c A (eval value env) g h P₀) (y : Ev c A (eval slice env) g h P₁)
    (m : ∀ v g' h' g'' h'', Gr g' h' g'' h'' → P₀ g' h' v → P₀ g'' h'' v)
    (k : ∀ o i g' h', Gr g h g' h' → P₀ g' h' o → P₁ g' h' i → Ev c A (subscriptTail value slice o i) g' h' P) : Ev c A (eval (.Subscript value slice pos) env) g h P := by
  refine ⟨fun g₁ h₁ G Q E q => ⟨fun s hs hr => Subscript_ ?_⟩⟩
  refine (x.go g₁ h₁ G _ _ fun o g₂ h₂ G₂ p => y.go g₂ h₂ (G.trans G₂) _ _ fun i g₃ h₃ G₃ p₃ => (k o i g₃ h₃ ((G.trans G₂).trans G₃) (m _ _ _ _ _ G₃ p) p₃).go g₃ h₃ G₃.here Q E fun u g₄ h₄ G₄ p₄ => q u g₄ h₄ ((G₂.trans G₃).trans G₄) p₄).wpAny_of hs hr fun o s₁ y r₁ => y.wpAny_of rfl r₁ fun i s₂ z r₂ => z.run s₂ rfl r₂
theorem idx_small {k : Int} {n : Nat} (h0 : 0 ≤ k) (h : k.toNat < n) (hn : n < 2 ^ 62) : k < 2 ^ 63 := by rw [← Int.toNat_of_nonneg h0]; exact Int.ofNat_lt.mpr (Nat.lt_trans (Nat.lt_trans h hn) (by decide))
theorem idx_neg {k : Int} {n : Nat} (h : -(n : Int) ≤ k) (hn : n < 2 ^ 62) : -2 ^ 63 ≤ k := Int.le_trans (Int.neg_le_neg (Int.ofNat_le.mpr (Nat.le_of_lt (Nat.lt_trans hn (by decide : 2 ^ 62 < 2 ^ 63))))) h
theorem mono_L : ∀ (v : Value) (g' : FB) (h' : Heap) (g'' : FB) (h'' : Heap), Gr g' h' g'' h'' → (∃ a, v = .ref a ∧ LstAt g' h' a ds) → ∃ a, v = .ref a ∧ LstAt g'' h'' a ds := fun _ _ _ _ _ G ⟨a, e, k⟩ => ⟨a, e, k.gr G⟩
theorem mono_D : ∀ (v : Value) (g' : FB) (h' : Heap) (g'' : FB) (h'' : Heap), Gr g' h' g'' h'' → Den g' v d → Den g'' v d := fun _ _ _ _ _ G k => k.mono G.sub
theorem eIdx {k : Int} (p : EvL c A env x g h ds) (q : EvD c A env y g h (.int k)) (h0 : 0 ≤ k) (hx : ds[k.toNat]? = some d) (hf : ds.length < 2 ^ 62)
    (hs : ∀ a u, subscripted y false (.ref a) (.int k u) = operate [.ref a, .int k u] (getItem (.ref a) (.int k u))) : EvD c A env (.Subscript x y pos) g h d :=
  Ev_Sub p q mono_L fun o i g' h' G ⟨a, e, vs, n, eo, ks⟩ pi => by
    subst e
    obtain ⟨u, rfl⟩ := pi.int_inv
    obtain ⟨v, ev, dv⟩ := ks.arr hx
    have hk : k < 2 ^ 63 := idx_small h0 (List.getElem?_eq_some_iff.mp hx).1 hf
    exact .of fun g₁ s G₁ _ _ q => by
      have hl : s.heap.IsList a vs.toArray := ⟨_, G₁.kp _ _ eo, rfl, n, rfl⟩
      exact tail_any hl.typeIs slot_list_getitem.lookup (wpAny_getItem_list hl h0 hk ev (q v s.toks (dv.mono G₁.sub))) (hs a u)
theorem eIdxN {k : Int} (p : EvL c A env x g h ds) (q : EvD c A env y g h (.int k)) (h0 : k < 0) (h1 : -(ds.length : Int) ≤ k) (hx : ds[(k + ds.length).toNat]? = some d) (hf : ds.length < 2 ^ 62)
    (hs : ∀ a u, subscripted y false (.ref a) (.int k u) = operate [.ref a, .int k u] (getItem (.ref a) (.int k u))) : EvD c A env (.Subscript x y pos) g h d :=
  Ev_Sub p q mono_L fun o i g' h' G ⟨a, e, vs, n, eo, ks⟩ pi => by
    subst e
    obtain ⟨u, rfl⟩ := pi.int_inv
    have hl := ks.length
    obtain ⟨v, ev, dv⟩ := ks.arr hx
    exact .of fun g₁ s G₁ _ _ q => by
      have hL : s.heap.IsList a vs.toArray := ⟨_, G₁.kp _ _ eo, rfl, n, rfl⟩
      exact tail_any hL.typeIs slot_list_getitem.lookup (wpAny_getItem_list_neg hL h0 (by simpa [hl] using h1) (idx_neg h1 hf) (by simpa [hl] using ev) (q v s.toks (dv.mono G₁.sub))) (hs a u)
theorem eIdxT {k : Int} {j : Nat} (p : EvD c A env x g h (.tup ds)) (q : EvD c A env y g h (.int k)) (hj : seqIndex? k ds.length = some j) (hx : ds[j]? = some d) (hlo : -(2 ^ 63) ≤ k) (hhi : k < 2 ^ 63)
    (hs : ∀ a u, subscripted y false (.ref a) (.int k u) = operate [.ref a, .int k u] (getItem (.ref a) (.int k u))) : EvD c A env (.Subscript x y pos) g h d :=
  Ev_Sub p q mono_D fun o i g' h' G po pi => by
    obtain ⟨a, vs, n, rfl, eo, ks⟩ := po.tup_inv
    obtain ⟨u, rfl⟩ := pi.int_inv
    have hl := ks.length
    obtain ⟨v, ev, dv⟩ := ks.arr hx
    exact .of fun g₁ s G₁ _ _ q => by
      have hL : IsTup s.heap a vs.toArray := ⟨_, G₁.gh _ _ (G₁.sub _ _ eo), rfl, n, rfl⟩
      exact tail_any hL.typeIs slot_tuple_getitem.lookup (getItem_tuple hL hlo hhi (by simpa [hl] using hj) (by simpa using ev) (q v s.toks (dv.mono G₁.sub))) (hs a u)
end
section
variable {c : GC} {A : Around} {env : Env} {g g' : FB} {h h' : Heap} {E : Value → Heap → Prop} {e : Expr} {es : List Expr} {pos : Pos} {d : Dt} {ds : List Dt}
theorem bt_cons {pos : Pos} {e : Expr} {es : List Expr} {env : Env} (hs : starEach (e :: es) env = (false, eval e env) :: starEach es env) : backTo pos (starEach (e :: es) env) = (false, eval e env) :: backTo pos (starEach es env) := by rw [hs]; rfl
noncomputable abbrev Wa (c : GC) (A : Around) (pos : Pos) (es : List Expr) (env : Env) (Q : List Value → Heap → Prop) (E : Value → Heap → Prop) (h : Heap) : Prop := Wp c A (spliced (backTo pos (starEach es env))) Q E h
theorem Wa_nil {Q : List Value → Heap → Prop} (x : Q [] h) : Wa c A pos [] env Q E h := ⟨fun s hs hr => Calls.spliced_nil ⟨hs ▸ x, hr⟩⟩
theorem Wa_cons {Q : List Value → Heap → Prop} (x : Wp c A (eval e env) (fun v h' => Wa c A pos es env (fun vs h'' => Q (v :: vs) h'') E h') E h) (hs : starEach (e :: es) env = (false, eval e env) :: starEach es env) : Wa c A pos (e :: es) env Q E h := by
  show Wp c A (spliced (backTo pos (starEach (e :: es) env))) Q E h
  rw [bt_cons hs]
  exact ⟨fun s hs' hr => Calls.spliced_cons (x.wpAny_of hs' hr fun v s₁ y r₁ => y.run s₁ rfl r₁)⟩
noncomputable abbrev EvA (c : GC) (A : Around) (env : Env) (pos : Pos) (es : List Expr) (g : FB) (h : Heap) (ds : List Dt) : Prop := Ev c A (spliced (backTo pos (starEach es env))) g h fun g' _ vs => Dens g' vs ds
theorem aNil : EvA c A env pos [] g h [] := ⟨fun g₁ h₁ G Q E q => Wa_nil (q [] g₁ h₁ G.here .nil)⟩
theorem aCons (x : EvD c A env e g h d) (y : EvA c A env pos es g h ds) (hs : starEach (e :: es) env = (false, eval e env) :: starEach es env) : EvA c A env pos (e :: es) g h (d :: ds) :=
  ⟨fun g₁ h₁ G Q E q => Wa_cons (x.go g₁ h₁ G _ _ fun v g₂ h₂ G₂ p => y.go g₂ h₂ (G.trans G₂) _ _ fun vs g₃ h₃ G₃ p₃ => q _ g₃ h₃ (G₂.trans G₃) (.cons (p.mono G₃.sub) p₃)) hs⟩
theorem ev_newList {vs : List Value} (k : Dens g vs ds) (hsz : ds.length ≤ sizeLine) : ∀ g₁ h₁, Gr g h g₁ h₁ → Ev c A (newList vs) g₁ h₁ fun g' h' v => ∃ a, v = .ref a ∧ h₁.get? a = none ∧ g' a = none ∧ LstAt g' h' a ds :=
  fun g₁ h₁ G₁ => .ofG fun g₂ s G₂ Q E q => by
    have hn : s.heap.get? s.heap.objs.size = none := Heap.get?_push_self_none _
    exact wpAny_newList (q _ _ s.toks g₂ (.push G₂.gh) ⟨_, rfl, (Al.of G₂.kp).none hn, FB.none_of G₂.gh hn, _, _, Heap.get?_push_size _ rfl, k.mono (G₁.trans G₂).sub⟩) (by rw [k.length]; exact hsz)
theorem eList (x : EvA c A env pos es g h ds) (hsz : ds.length ≤ sizeLine) : EvN c A env (.List es pos) g h ds :=
  ⟨fun g₁ h₁ G₁ => .eq (show _ = (standAt pos >>= fun _ => spliced (backTo pos (starEach es env)) >>= newList) from rfl) (.stand ((x.up G₁).bind fun vs g' h' G' k =>
    ((ev_newList k hsz g' h' G'.here).imp fun v _ _ _ ⟨a, e, hn, gn, l⟩ => ⟨a, e, (Al.of G'.kp).none hn, gn, l⟩)))⟩
theorem ev_newTup {vs : List Value} (k : Dens g vs ds) (hsz : ds.length ≤ sizeLine) : Ev c A (newTuple vs) g h fun g' h' v => Den g' v (.tup ds) :=
  .ofG fun g₂ s G₂ Q E q => by
    obtain ⟨G₃, e⟩ := Gr.put (o := tupOf vs 0) G₂.gh rfl
    exact wpAny_newTuple (q _ _ s.toks _ G₃ (.tup e (k.mono (G₂.trans G₃).sub))) (by rw [k.length]; exact hsz)
theorem eTup {n : Nat} (x : EvA c A env pos es g h ds) (hsz : ds.length ≤ sizeLine) : EvD c A env (.Tuple es n pos) g h (.tup ds) :=
  .eq (show _ = (standAt pos >>= fun _ => spliced (backTo pos (starEach es env)) >>= newTuple) from rfl) (.stand (x.bind fun vs g' h' G' k => ev_newTup k hsz))
theorem Wp_callB {id : String} {args : List (Bool × Sem Value)} {Q : Value → Heap → Prop} (hp : args.any (·.1) = false) (hne : args = [] ∨ ∃ x r, args = (false, x) :: r) (x : Wp c A (spliced args) (fun vs h' => Wp c A (call (.builtin id) vs) Q E h') E h) :
    Wp c A (callWith pos (.builtin id) [] args []) Q E h := by
  refine ⟨fun s hs hr => Calls.callWith_builtin hp ?_⟩
  rcases hne with rfl | ⟨y, r, rfl⟩
  · refine evalArgs_nil3 ?_
    subst hs
    have := x.run s rfl hr
    exact (this : wpAny _ _ _ _ _ _) |> fun z => by
      have z' : wpAny (Mo c) A (pure [] : Sem (List Value)) _ _ s := z
      exact wpAny_bind (f := fun vs => call (.builtin id) vs) (wpAny_mono z' (fun vs s₁ y => y.1.run s₁ rfl y.2) fun _ _ e => e)
  · exact Calls.evalArgs_plain (x.wpAny_of hs hr fun vs s₁ y r₁ => y.run s₁ rfl r₁)
theorem Wp_callT {T : String} {args : List (Bool × Sem Value)} {Q : Value → Heap → Prop} (hp : args.any (·.1) = false) (hne : ∃ x r, args = (false, x) :: r) (x : Wp c A (spliced args) (fun vs h' => Wp c A (call (.type T) vs) Q E h') E h) :
    Wp c A (callWith pos (.type T) [] args []) Q E h := by
  refine ⟨fun s hs hr => PyProof.Rows.callWith_type hp ?_⟩
  obtain ⟨y, r, rfl⟩ := hne
  exact Calls.evalArgs_plain (x.wpAny_of hs hr fun vs s₁ y r₁ => y.run s₁ rfl r₁)
theorem Wp_Call {x : Str} {p : Pos} {f : Value} {Q : Value → Heap → Prop} (hf : Ev c A (eval (.Name x p) env) g h fun _ _ v => v = f) (gr : Gr g h g h)
    (k : ∀ g' h', Gr g h g' h' → Wp c A (callWith pos f [] (backTo pos (starEach es env)) []) Q E h') : Wp c A (eval (.Call (.Name x p) es [] pos) env) Q E h :=
  Wp_eq (show _ = (eval (.Name x p) env >>= fun f => callWith pos f [] (backTo pos (starEach es env)) []) from rfl) (Wp_bind (hf.go g h gr _ _ fun v g₂ h₂ G e => by subst e; exact k g₂ h₂ G))
theorem Ev_Call {x : Str} {p : Pos} {f : Value} {P : FB → Heap → Value → Prop} (hf : Ev c A (eval (.Name x p) env) g h fun _ _ v => v = f)
    (k : Ev c A (callWith pos f [] (backTo pos (starEach es env)) []) g h P) : Ev c A (eval (.Call (.Name x p) es [] pos) env) g h P :=
  .eq (show _ = (eval (.Name x p) env >>= fun f => callWith pos f [] (backTo pos (starEach es env)) []) from rfl) (hf.bind fun v g' h' G e => by subst e; exact k.up G)
theorem eCallB {x : Str} {p : Pos} {id : String} {P : FB → Heap → Value → Prop} {P₀ : FB → Heap → List Value → Prop} (hf : Ev c A (eval (.Name x p) env) g h fun _ _ v => v = .builtin id) (a : Ev c A (spliced (backTo pos (starEach es env))) g h P₀)
    (k : ∀ vs g' h', Gr g h g' h' → P₀ g' h' vs → Ev c A (call (.builtin id) vs) g' h' P)
    (hp : (backTo pos (starEach es env)).any (·.1) = false) (hne : backTo pos (starEach es env) = [] ∨ ∃ x r, backTo pos (starEach es env) = (false, x) :: r) : Ev c A (eval (.Call (.Name x p) es [] pos) env) g h P :=
  Ev_Call hf ⟨fun g₁ h₁ G Q E q => Wp_callB hp hne (a.go g₁ h₁ G _ _ fun vs g₂ h₂ G₂ p => (k vs g₂ h₂ (G.trans G₂) p).go g₂ h₂ G₂.here _ _ fun v g₃ h₃ G₃ z => q v g₃ h₃ (G₂.trans G₃) z)⟩
theorem eCallT {x : Str} {p : Pos} {T : String} {P : FB → Heap → Value → Prop} {P₀ : FB → Heap → List Value → Prop} (hf : Ev c A (eval (.Name x p) env) g h fun _ _ v => v = .type T) (a : Ev c A (spliced (backTo pos (starEach es env))) g h P₀)
    (k : ∀ vs g' h', Gr g h g' h' → P₀ g' h' vs → Ev c A (call (.type T) vs) g' h' P)
    (hp : (backTo pos (starEach es env)).any (·.1) = false) (hne : ∃ x r, backTo pos (starEach es env) = (false, x) :: r) : Ev c A (eval (.Call (.Name x p) es [] pos) env) g h P :=
  Ev_Call hf ⟨fun g₁ h₁ G Q E q => Wp_callT hp hne (a.go g₁ h₁ G _ _ fun vs g₂ h₂ G₂ p => (k vs g₂ h₂ (G.trans G₂) p).go g₂ h₂ G₂.here _ _ fun v g₃ h₃ G₃ z => q v g₃ h₃ (G₂.trans G₃) z)⟩
end
section
variable {c : GC} {A : Around} {env : Env} {r : Rec} {own own' : Led} {L a : Addr} {loc loc' : Loc} {h : Heap} {g : FB} {x : Str} {d : Dt} {v : Value} {pos : Pos} {E : Value → Heap → Prop} {ds : List Dt}
structure Fn (env : Env) (L : Addr) : Prop where
  k : env.scope.kind = .function
  L : env.locals = L
  g : env.globals = mainGlobals
  b : env.builtins = builtinsNs
theorem Wp_storeL {Q : Unit → Heap → Prop} (D : St c r g own L loc h) (dv : Den g v d) (F : Fn env L) (hx : env.kindOf x = some .local)
    (k : ∀ h', St c r g own L ((x, d) :: loc) h' → Q () h') : Wp c A (storeName env x v) Q E h := ⟨fun s hs hr => by
  subst hs
  obtain ⟨m, n, km⟩ := D.ns
  obtain ⟨fk, rfl, _, _⟩ := F
  refine wpAny_storeName_local hx n (fun h' hn hs => ⟨k h' (D.store ⟨_, hn, fun y e hy => ?_⟩ hs), hr⟩) (by rw [fk]; rfl)
  rw [List.lookup_cons] at hy
  by_cases q : y = x
  · subst q; simp at hy; subst hy; exact ⟨v, if_pos rfl, dv⟩
  · have q' : (y == x) = false := beq_eq_false_iff_ne.mpr q
    rw [q'] at hy
    obtain ⟨w, e1, e2⟩ := km y e hy
    exact ⟨w, (if_neg q).trans e1, e2⟩⟩
theorem Wp_storeC {Q : Unit → Heap → Prop} {d₀ : Option Dt} (D : St c r g own L loc h) (dv : Den g v d) (F : Fn env L) (hx : env.kindOf x = some .cell) (hc : env.cells.lookup x = some a) (U : Up a (.cell d₀) (.cell (some d)) own own')
    (k : ∀ h', St c r g own' L loc h' → Q () h') : Wp c A (storeName env x v) Q E h := ⟨fun s hs hr => by
  subst hs
  obtain ⟨o, e, i⟩ := D.get U.mem
  have hv : ∃ v₀, s.heap.IsCell a v₀ := by
    cases d₀ with
    | none => exact ⟨none, o, e, i⟩
    | some d => obtain ⟨w, i', _⟩ := i; exact ⟨some w, o, e, i'⟩
  obtain ⟨v₀, hv⟩ := hv
  refine wpAny_storeName_cell F.k hx hc hv fun h' ⟨o', e', i'⟩ hs => ⟨k h' (D.up U hs e' ⟨v, i', dv⟩), hr⟩⟩
theorem Wp_bindName {Q : Unit → Heap → Prop} (k : Wp c A (storeName env x v) Q E h) : Wp c A (bindName env x v) Q E h := ⟨fun s hs hr => wpAny_bindName (k.run s hs hr)⟩
theorem Wp_asgName {Q : Unit → Heap → Prop} (k : Wp c A (storeName env x v) Q E h) : Wp c A (assign (.Name x pos) env v) Q E h := ⟨fun s hs hr => wpAny_assign_Name (k.run s hs hr)⟩
variable {Q : Flow → Heap → Prop} {rest : List Stmt} {e : Expr}
theorem sNil (x : Q .next h) : Wp c A (execs [] env) Q E h := ⟨fun s hs hr => wpAny_execs_nil ⟨hs ▸ x, hr⟩⟩
noncomputable def Sq (c : GC) (A : Around) (env : Env) (rest : List Stmt) (Q : Flow → Heap → Prop) (E : Value → Heap → Prop) : Flow → Heap → Prop
  | .next, h => Wp c A (execs rest env) Q E h
  | f, h => Q f h
theorem sCons {st : Stmt} (x : Wp c A (exec st env) (Sq c A env rest Q E) E h) : Wp c A (execs (st :: rest) env) Q E h :=
  ⟨fun s hs hr => wpAny_execs_cons (x.wpAny_of hs hr fun f s' y r' => by cases f <;> first | exact y.run s' rfl r' | exact ⟨y, r'⟩)⟩
theorem execs_app : ∀ (xs ys : List Stmt), execs (xs ++ ys) env = (do match ← execs xs env with | .next => execs ys env | f => pure f)
  | [], ys => rfl
  | x :: xs, ys => by
    show execs (x :: (xs ++ ys)) env = _
    rw [execs_cons, execs_cons, bind_assoc]
    congr 1
    funext f
    cases f <;> first | exact execs_app xs ys | rfl
theorem execs_If {test : Expr} {body orelse : List Stmt} : execs (.If test body orelse pos :: rest) env = (standAt pos >>= fun _ => isTrue test env (eval test env) >>= fun b => if b then execs (body ++ rest) env else execs (orelse ++ rest) env) := by
  rw [execs_cons, exec_If, bind_assoc]
  congr 1
  funext _
  rw [bind_assoc]
  congr 1
  funext b
  cases b with
  | true => rw [if_pos rfl, if_pos rfl, execs_app]; rfl
  | false => rw [if_neg (by simp), if_neg (by simp), execs_app]; rfl
theorem sReturn (x : Wp c A (eval e env) (fun v => Q (.ret v)) E h) : Wp c A (execs (.Return (some e) pos :: rest) env) Q E h :=
  sCons ⟨fun s hs hr => wpAny_Return_some (x.wpAny_of hs hr fun v s' y r' => ⟨y, r'⟩)⟩
theorem sReturnD (D : St c r g own L loc h) (x : EvD c A env e g h d) (k : ∀ v g' h', St c r g' own L loc h' → Sub g g' → Den g' v d → Q (.ret v) h') : Wp c A (execs (.Return (some e) pos :: rest) env) Q E h :=
  sReturn (x.wp D fun v g' h' D' G dv => k v g' h' D' G.sub dv)
theorem sReturn0 (x : Q (.ret .none) h) : Wp c A (execs (.Return none pos :: rest) env) Q E h := sCons ⟨fun s hs hr => wpAny_Return_none ⟨hs ▸ x, hr⟩⟩
theorem sAssignW {p' : Pos} (w : Wp c A (eval e env) (fun v h₁ => Wp c A (storeName env x v) (fun _ h₂ => Wp c A (execs rest env) Q E h₂) E h₁) E h) (hs : swapsWith e (some (.Name x p')) pos.line env = pure false) :
    Wp c A (execs (.Assign [.Name x p'] e pos :: rest) env) Q E h :=
  sCons ⟨fun s hs' hr => wpAny_Assign_Name (w.wpAny_of hs' hr fun v s₁ y r₁ => y.wpAny_of rfl r₁ fun _ s₂ z r₂ => ⟨z, r₂⟩) hs⟩
theorem sAssign {p' : Pos} (D : St c r g own L loc h) (F : Fn env L) (p : EvD c A env e g h d) (hx : env.kindOf x = some .local) (hs : swapsWith e (some (.Name x p')) pos.line env = pure false)
    (k : ∀ g' h', St c r g' own L ((x, d) :: loc) h' → Sub g g' → Wp c A (execs rest env) Q E h') : Wp c A (execs (.Assign [.Name x p'] e pos :: rest) env) Q E h :=
  sAssignW (p.wp D fun v g' h' D' G dv => Wp_storeL D' dv F hx fun h'' D'' => k g' h'' D'' G.sub) hs
theorem sAssignC {p' : Pos} {d₀ : Option Dt} (D : St c r g own L loc h) (F : Fn env L) (p : EvD c A env e g h d) (hx : env.kindOf x = some .cell) (hc : env.cells.lookup x = some a) (U : Up a (.cell d₀) (.cell (some d)) own own') (hs : swapsWith e (some (.Name x p')) pos.line env = pure false)
    (k : ∀ g' h', St c r g' own' L loc h' → Sub g g' → Wp c A (execs rest env) Q E h') : Wp c A (execs (.Assign [.Name x p'] e pos :: rest) env) Q E h :=
  sAssignW (p.wp D fun v g' h' D' G dv => Wp_storeC D' dv F hx hc U fun h'' D'' => k g' h'' D'' G.sub) hs
theorem sAssignN {p' : Pos} (D : St c r g own L loc h) (F : Fn env L) (p : EvN c A env e g h ds) (hx : env.kindOf x = some .local) (hs : swapsWith e (some (.Name x p')) pos.line env = pure false)
    (k : ∀ a g' h', St c r g' ((a, .lst ds) :: own) L ((x, .ref a) :: loc) h' → r.h.get? a = none → Sub g g' → Wp c A (execs rest env) Q E h') : Wp c A (execs (.Assign [.Name x p'] e pos :: rest) env) Q E h :=
  sAssignW (p.wp D fun a g' h' D' hn G => Wp_storeL D' (.ref a) F hx fun h'' D'' => k a g' h'' D'' (D.none_of hn) G.sub) hs
theorem sIf {test : Expr} {body orelse : List Stmt} {b : Bool} (D : St c r g own L loc h) (p : EvB c A env test g h b)
    (k1 : b = true → ∀ g' h', St c r g' own L loc h' → Sub g g' → Wp c A (execs (body ++ rest) env) Q E h') (k2 : b = false → ∀ g' h', St c r g' own L loc h' → Sub g g' → Wp c A (execs (orelse ++ rest) env) Q E h') :
    Wp c A (execs (.If test body orelse pos :: rest) env) Q E h := by
  refine Wp_eq execs_If (Wp_bind ⟨fun s hs hr => wpAny_standAt ⟨?_, hr⟩⟩)
  subst hs
  refine Wp_bind (p.wp D fun t g' h' D' G e => ?_)
  subst e
  cases t with
  | true => rw [if_pos rfl]; exact k1 rfl g' h' D' G.sub
  | false => rw [if_neg (by simp)]; exact k2 rfl g' h' D' G.sub
theorem sExpr (x : Wp c A (eval e env) (fun v h' => v = .none ∧ Wp c A (execs rest env) Q E h') E h) (hi : interactive env = false) (hs : swapsWith e none pos.line env = pure false) : Wp c A (execs (.Expr e pos :: rest) env) Q E h :=
  sCons ⟨fun s hs' hr => wpAny_Expr (x.wpAny_of hs' hr fun v s' ⟨e, y⟩ r' => by subst e; exact ⟨y, r'⟩) hi hs⟩
end
theorem Wp_gen {c : GC} {α : Type} {A : Around} {t : Sem α} {E : Value → Heap → Prop} {h : Heap} {P : α → Heap → Prop} (x : ∀ Q : α → Heap → Prop, (∀ a h', P a h' → Q a h') → Wp c A t Q E h) : Wp c A t P E h := x P fun _ _ p => p
theorem toArr_push (vs : List Value) (v : Value) : vs.toArray.push v = (vs ++ [v]).toArray := by simp
section
variable {c : GC} {A : Around} {env : Env} {r : Rec} {own own' : Led} {L a : Addr} {loc loc' : Loc} {h : Heap} {g : FB} {d : Dt} {v w : Value} {pos apos pos' : Pos} {E : Value → Heap → Prop} {ds es : List Dt} {o e : Expr} {rest : List Stmt}
theorem Wp_append {Q : Value → Heap → Prop} (D : St c r g own L loc h) (dv : Den g v d) (U : Up a (.lst ds) (.lst (ds ++ [d])) own own') (hsz : ds.length < sizeLine)
    (k : ∀ h', St c r g own' L loc h' → Q .none h') : Wp c A (call (.builtin "list.append") [.ref a, v]) Q E h := ⟨fun s hs hr => by
  subst hs
  obtain ⟨o, e, vs, n, rfl, ks⟩ := D.get U.mem
  refine append_at e (fun h' hs ho => ⟨k h' (D.up U hs ho ⟨vs ++ [v], n + 1, by rw [toArr_push], ks.append (.one dv)⟩), hr⟩) (by rw [List.size_toArray, ks.length]; exact Nat.le_of_lt hsz)⟩
theorem Wp_extend {Q : Value → Heap → Prop} {b : Addr} (D : St c r g own L loc h) (B : LstAt g h b es) (U : Up a (.lst ds) (.lst (ds ++ es)) own own') (hsz : ds.length + es.length ≤ sizeLine)
    (k : ∀ h', St c r g own' L loc h' → Q .none h') : Wp c A (call (.builtin "list.extend") [.ref a, .ref b]) Q E h := ⟨fun s hs hr => by
  subst hs
  obtain ⟨o, e, vs, n, rfl, ks⟩ := D.get U.mem
  obtain ⟨ws, n2, e2, kw⟩ := B
  have hsz' : vs.toArray.size + ws.toArray.size ≤ sizeLine := by simp [ks.length, kw.length]; exact hsz
  refine call_meets PySem.F.slot_list_extend ⟨_, e, rfl⟩ PySem.F.entry_list_extend (PySem.F.args_list_extend_2 _ _) (AutoSeq1.list_extend_list_list_0 a vs.toArray n b ws.toArray n2 (extend_door hsz') (Nat.le_trans (Nat.le_add_right _ _) hsz')) ⟨e, e2, ?_⟩
  refine ⟨k _ (D.up U (Heap.SameBut.update ..) (PySem.IsL.update e (fun x : Array Value => x ++ ws.toArray)) ⟨vs ++ ws, _, by simp; rfl, ks.append kw⟩), hr⟩⟩
theorem Wp_reverse {Q : Value → Heap → Prop} (D : St c r g own L loc h) (U : Up a (.lst ds) (.lst ds.reverse) own own') (hsz : ds.length ≤ sizeLine)
    (k : ∀ h', St c r g own' L loc h' → Q .none h') : Wp c A (call (.builtin "list.reverse") [.ref a]) Q E h := ⟨fun s hs hr => by
  subst hs
  obtain ⟨o, e, vs, n, rfl, ks⟩ := D.get U.mem
  refine call_meets PySem.F.slot_list_reverse ⟨_, e, rfl⟩ PySem.F.entry_list_reverse (PySem.F.args_list_reverse_1 _) (AutoSeq1.list_reverse_list_0 a vs.toArray n (by simp [ks.length]; exact hsz)) ⟨e, ?_⟩
  refine ⟨k _ (D.up U (Heap.SameBut.update ..) (PySem.IsL.update e (fun x : Array Value => x.reverse)) ⟨vs.reverse, _, by simp; rfl, ks.reverse⟩), hr⟩⟩
theorem Wp_pop0 {Q : Value → Heap → Prop} {u : Tok} (D : St c r g own L loc h) (U : Up a (.lst (d :: ds)) (.lst ds) own own') (hsz : ds.length < sizeLine)
    (k : ∀ v h', Den g v d → St c r g own' L loc h' → Q v h') : Wp c A (call (.builtin "list.pop") [.ref a, .int 0 u]) Q E h := ⟨fun s hs hr => by
  subst hs
  obtain ⟨o, e, vs, n, rfl, ks⟩ := D.get U.mem
  obtain _ | ⟨dv, kv⟩ := ks
  rename_i y its
  have ee : (y :: its).toArray.eraseIdxIfInBounds 0 = its.toArray := kl_erase [] its y
  refine call_meets PySem.F.slot_list_pop ⟨_, e, rfl⟩ PySem.F.entry_list_pop (PySem.F.args_list_pop_2 _ _) (PySem.MeetsSeq.list_pop_at a _ n 0 u 0 y (by decide) (by simp [seqIndex?]) (by simp) (by rw [List.size_toArray, List.length_cons, kv.length]; exact hsz)) ⟨e, ?_⟩
  have q := PySem.IsL.update e (fun a : Array Value => a.eraseIdxIfInBounds 0)
  refine ⟨k y _ dv (D.up U (Heap.SameBut.update ..) q ⟨its, _, by rw [ee], kv⟩), hr⟩⟩
theorem toArr_set (vs : List Value) (k : Nat) (v : Value) : vs.toArray.setIfInBounds k v = (vs.set k v).toArray := by apply Array.toList_inj.mp; simp
theorem Wp_setItem {Q : Unit → Heap → Prop} {k : Int} {t : Tok} (D : St c r g own L loc h) (dv : Den g v d) (U : Up a (.lst ds) (.lst (ds.set k.toNat d)) own own') (h0 : 0 ≤ k) (hk : k < ds.length) (hf : ds.length < 2 ^ 62)
    (q : ∀ h', St c r g own' L loc h' → Q () h') : Wp c A (setItem (.ref a) (.int k t) v) Q E h := ⟨fun s hs hr => by
  subst hs
  obtain ⟨o, e, vs, n, rfl, ks⟩ := D.get U.mem
  refine ki_setAt e h0 (by (first | lia | omega)) (by rw [List.size_toArray, ks.length]; exact hk) ⟨q _ (D.up U (Heap.SameBut.update ..) (PySem.IsL.update e (fun a : Array Value => a.setIfInBounds k.toNat v)) ⟨vs.set k.toNat v, _, by rw [toArr_set], ks.set dv⟩), hr⟩⟩
theorem Wp_meth {name : Str} {T id : String} {args : List Expr} {Q : Value → Heap → Prop} (pa : PlainAttrs T) (slot : Slot T name id) (hty : typeOf (.builtin id) = pure (.type "method_descriptor"))
    (x : Wp c A (eval o env) (fun ov h₁ => (∀ s : Shared, s.heap = h₁ → s.TypeIs ov T ∧ ∀ a, ov = .ref a → ∃ ob, s.heap.get? a = some ob ∧ ob.dict = none) ∧ Wa c A pos args env (fun vs h₂ => Wp c A (call (.builtin id) (ov :: vs)) Q E h₂) E h₁) E h)
    (hbase : attributeBase o name env (eval o env) = eval o env)
    (hfew : ((backTo pos (starEach args env)).all (fun x => !x.1) && (backToKw pos (keywordEach [] env)).all (fun x => x.1.isSome) && decide (args.length + ([] : List Keyword).length + (if ([] : List Keyword).isEmpty then 0 else 1) < 30)) = true)
    (hline : (apos.endLine == pos.line) = true) (hp : (backTo pos (starEach args env)).any (·.1) = false) (hne : backTo pos (starEach args env) = [] ∨ ∃ x r, backTo pos (starEach args env) = (false, x) :: r) :
    Wp c A (eval (.Call (.Attribute o name apos) args [] pos) env) Q E h :=
  ⟨fun s hs hr => wpAny_Call_method_lateS hbase hfew hline (x.wpAny_of hs hr fun ov s₁ ⟨t, y⟩ r₁ => by
    obtain ⟨hT, hd⟩ := t s₁ rfl
    refine ⟨T, id, pa, slot, hty, hT, hd, Calls.callWith_builtin hp ?_⟩
    rcases hne with q | ⟨z, l, q⟩
    · refine (?_ : wpAny _ _ (evalArgs (.builtin id) true (backTo pos (starEach args env)) []) _ _ _)
      have y' : Wp c A (spliced (backTo pos (starEach args env))) _ _ _ := y
      rw [q] at y' ⊢
      refine evalArgs_nil3 ?_
      have z' : wpAny (Mo c) A (pure [] : Sem (List Value)) _ _ s₁ := y'.run s₁ rfl r₁
      exact wpAny_bind (f := fun vs => call (.builtin id) (ov :: vs)) (wpAny_mono z' (fun vs s₂ y => y.1.run s₂ rfl y.2) fun _ _ e => e)
    · have y' : Wp c A (spliced (backTo pos (starEach args env))) _ _ _ := y
      rw [q] at y' ⊢
      exact Calls.evalArgs_plain (y'.wpAny_of rfl r₁ fun vs s₂ y r₂ => y.run s₂ rfl r₂))⟩
theorem St.lstType (D : St c r g own L loc h) (hm : (a, .lst ds) ∈ own) : ∀ s : Shared, s.heap = h → s.TypeIs (.ref a) "list" ∧ ∀ b, Value.ref a = .ref b → ∃ ob, s.heap.get? b = some ob ∧ ob.dict = none := fun s hs => by
  subst hs
  obtain ⟨_, e, vs, n, rfl, _⟩ := D.get hm
  exact ⟨⟨_, e, rfl⟩, fun b q => by cases q; exact ⟨_, e, rfl⟩⟩
theorem sAppend {Q : Flow → Heap → Prop} (D : St c r g own L loc h) (po : EvD c A env o g h (.ref a)) (pe : EvD c A env e g h d) (U : Up a (.lst ds) (.lst (ds ++ [d])) own own') (hsz : ds.length < sizeLine)
    (hi : interactive env = false) (hs : swapsWith (.Call (.Attribute o "append" apos) [e] [] pos) none pos'.line env = pure false) (hbase : attributeBase o "append" env (eval o env) = eval o env) (hse : starEach [e] env = [(false, eval e env)]) (hline : (apos.endLine == pos.line) = true)
    (k : ∀ g' h', St c r g' own' L loc h' → Sub g g' → Wp c A (execs rest env) Q E h') : Wp c A (execs (.Expr (.Call (.Attribute o "append" apos) [e] [] pos) pos' :: rest) env) Q E h := by
  have hb : backTo pos (starEach [e] env) = [(false, eval e env)] := by rw [hse]; rfl
  refine sExpr (Wp_meth PySem.F.plainAttrs_list PySem.F.slot_list_append PySem.F.type_list_append (po.wp D fun ov g₁ h₁ D₁ G₁ p => ?_) hbase (by rw [hb]; rfl) hline (by rw [hb]; rfl) (.inr ⟨_, _, hb⟩)) hi hs
  cases p.ref_inv
  refine ⟨D₁.lstType U.mem, Wa_cons ((pe.up G₁).wp D₁ fun v g₂ h₂ D₂ G₂ dv => Wa_nil (Wp_append D₂ dv U hsz fun h' D' => ⟨rfl, k g₂ h' D' (G₁.sub.trans G₂.sub)⟩)) hse⟩
end
structure Rm (A : Around) (d u : Nat) : Prop where
  hn : A.handled = none
  d : A.depth + d < recursionLimit
  u : A.units + u < cLine
theorem Rm.deeper {A : Around} {d u : Nat} (x : Rm A (d + 1) (u + 3)) (env : Env) : Rm (A.deeper env) d u := ⟨x.hn, by have := x.d; show A.depth + 1 + d < _; (first | lia | omega), by have := x.u; show A.units + 3 + u < _; (first | lia | omega)⟩
theorem Rm.le {A : Around} {d u d' u' : Nat} (x : Rm A d u) (hd : d' ≤ d) (hu : u' ≤ u) : Rm A d' u' := ⟨x.hn, Nat.lt_of_le_of_lt (by (first | lia | omega)) x.d, Nat.lt_of_le_of_lt (by (first | lia | omega)) x.u⟩
section
variable {c : GC} {A : Around} {g : FB} {mu : Led} {h : Heap} {R : Result → Heap → Prop} {f : Addr} {args : Args} {binds : List (Str × Value)} {bd : Loc}
  {name qual : Str} {params : Arguments} {body : List Stmt} {scope : Scope} {cl : List (Str × Addr)} {dV kV doc pm cdv ct oc : Value} {an od : Option Addr} {osl : Array (Option Value)} {fo : Obj}
theorem enterG (P : Pre c g mu h) (ho : h.get? f = some fo) (hd' : fo.data = .func (fnX name qual params body scope cl dV kV doc pm an cdv ct))
    (hcd : h.CodeRec cdv qual) {dd uu : Nat} (hroom : Rm A (dd + 1) (uu + 3))
    (hbind : ∀ s : Shared, s.heap = h → BindsTo s (fnX name qual params body scope cl dV kV doc pm an cdv ct) args binds) (hloc : ∀ y ∈ binds, scope.names.lookup y.1 = some .local)
    (hcell : ∀ x ∈ scope.names, x.2 ≠ .cell) (hco : scope.isCoroutine = false) (hgen : scope.isGenerator = false) (hk : scope.kind = .function)
    (hb : ∀ x d, bd.lookup x = some d → ∃ v, binds.reverse.lookup x = some v ∧ Den g v d)
    (k : ∀ L h₁, St c ⟨g, h, mu.map (·.1)⟩ g mu L bd h₁ → Fn (envX qual scope L f cdv cl) L → Rm (A.deeper (envX qual scope L f cdv cl)) dd uu → Wp c (A.deeper (envX qual scope L f cdv cl)) (execs body (envX qual scope L f cdv cl)) (fun fl h' => R (.ok (.ret (match fl with | .ret v => v | _ => .none))) h') NoE h₁) :
    Cd c A (.call (.ref f) args) R h := ⟨fun s hs hr => by
  subst hs
  refine codeAny_call_def (fd := fnX name qual params body scope cl dV kV doc pm an cdv ct) (body := body) (binds := binds) (Nat.lt_of_le_of_lt (Nat.le_add_right _ _) hroom.d) ho hd' (c.T.nolimit.keeps P.bas.keep) hcd rfl (hbind s rfl) hcell hloc (fun h₁ hns hk₁ => ?_) hco hgen hk
  have hL : s.heap.get? s.heap.objs.size = none := Heap.get?_push_self_none _
  have D : St c ⟨g, s.heap, mu.map (·.1)⟩ g mu s.heap.objs.size bd h₁ := by
    refine ⟨⟨fun a o e => hk₁ _ _ (P.gh _ _ e), fun p hp => ?_, P.nd, .rfl, fun _ _ e => .inl e, fun a o _ e => hk₁ _ _ e, fun p hp => .inl (List.mem_map_of_mem hp), .of hk₁⟩, P.cb, ⟨_, hns, hb⟩, FB.none_of P.gh hL, fun p hp e => ?_, hL⟩
    · obtain ⟨⟨o, e, i⟩, n⟩ := P.ow p hp
      exact ⟨⟨o, hk₁ _ _ e, i⟩, n⟩
    · obtain ⟨⟨o, e', i⟩, n⟩ := P.ow p hp
      rw [e, hL] at e'; cases e'
  exact wpAny_mono ((k _ _ D ⟨hk, rfl, rfl, rfl⟩ (hroom.deeper _)).run _ rfl hr) (fun _ _ y => y) fun _ _ y => y.1.elim⟩
theorem enterD (P : Pre c g mu h)
    (ho : (hd.heap_1 c.w.params).lookup f = some ⟨oc, od, .func (fnX name qual params body scope [] dV kV doc pm an cdv ct), osl⟩)
    (hcd : codeIn (hd.heap_1 c.w.params) cdv qual = true) {dd uu : Nat} (hroom : Rm A (dd + 1) (uu + 3))
    (hbind : ∀ s : Shared, s.heap = h → BindsTo s (fnX name qual params body scope [] dV kV doc pm an cdv ct) args binds) (hloc : ∀ y ∈ binds, scope.names.lookup y.1 = some .local)
    (hcell : ∀ x ∈ scope.names, x.2 ≠ .cell) (hco : scope.isCoroutine = false) (hgen : scope.isGenerator = false) (hk : scope.kind = .function)
    (hb : ∀ x d, bd.lookup x = some d → ∃ v, binds.reverse.lookup x = some v ∧ Den g v d)
    (k : ∀ L h₁, St c ⟨g, h, mu.map (·.1)⟩ g mu L bd h₁ → Fn (envX qual scope L f cdv []) L → Rm (A.deeper (envX qual scope L f cdv [])) dd uu → Wp c (A.deeper (envX qual scope L f cdv [])) (execs body (envX qual scope L f cdv [])) (fun fl h' => R (.ok (.ret (match fl with | .ret v => v | _ => .none))) h') NoE h₁) :
    Cd c A (.call (.ref f) args) R h :=
  enterG P (P.bas.keep _ _ (c.X _ _ ho)) rfl (codeRec_of (c.X.keeps P.bas.keep) hcd) hroom hbind hloc hcell hco hgen hk hb k
theorem lookup1 {g : FB} {x : Str} {v : Value} {d : Dt} (p : Den g v d) : ∀ y e, List.lookup y [(x, d)] = some e → ∃ w, List.lookup y ([(x, v)] : List (Str × Value)).reverse = some w ∧ Den g w e := by
  intro y e q
  simp only [List.lookup_cons, List.lookup_nil, List.reverse_cons, List.reverse_nil, List.nil_append] at q ⊢
  cases z : y == x <;> simp [z] at q ⊢
  subst q; exact p
theorem lookup2 {g : FB} {x x' : Str} {v v' : Value} {d d' : Dt} (p : Den g v d) (p' : Den g v' d') : ∀ y e, List.lookup y [(x', d'), (x, d)] = some e → ∃ w, List.lookup y ([(x, v), (x', v')] : List (Str × Value)).reverse = some w ∧ Den g w e := by
  intro y e q
  simp only [List.lookup_cons, List.lookup_nil, List.reverse_cons, List.reverse_nil, List.nil_append, List.cons_append] at q ⊢
  cases z : y == x' <;> cases z' : y == x <;> simp [z, z'] at q ⊢ <;> subst q <;> assumption
theorem lookup3 {g : FB} {x x' x'' : Str} {v v' v'' : Value} {d d' d'' : Dt} (p : Den g v d) (p' : Den g v' d') (p'' : Den g v'' d'') : ∀ y e, List.lookup y [(x'', d''), (x', d'), (x, d)] = some e → ∃ w, List.lookup y ([(x, v), (x', v'), (x'', v'')] : List (Str × Value)).reverse = some w ∧ Den g w e := by
  intro y e q
  simp only [List.lookup_cons, List.lookup_nil, List.reverse_cons, List.reverse_nil, List.nil_append, List.cons_append] at q ⊢
  cases z : y == x'' <;> cases z' : y == x' <;> cases z'' : y == x <;> simp [z, z', z''] at q ⊢ <;> subst q <;> assumption
theorem lookup4 {g : FB} {x x' x'' y₀ : Str} {v v' v'' w₀ : Value} {d d' d'' e₀ : Dt} (p : Den g v d) (p' : Den g v' d') (p'' : Den g v'' d'') (p₀ : Den g w₀ e₀) : ∀ y e, List.lookup y [(y₀, e₀), (x'', d''), (x', d'), (x, d)] = some e → ∃ w, List.lookup y ([(x, v), (x', v'), (x'', v''), (y₀, w₀)] : List (Str × Value)).reverse = some w ∧ Den g w e := by
  intro y e q
  simp only [List.lookup_cons, List.lookup_nil, List.reverse_cons, List.reverse_nil, List.nil_append, List.cons_append] at q ⊢
  cases z₀ : y == y₀ <;> cases z : y == x'' <;> cases z' : y == x' <;> cases z'' : y == x <;> simp [z, z', z'', z₀] at q ⊢ <;> subst q <;> assumption
end
section
variable {c : GC} {A : Around} {env : Env} {g : FB} {h : Heap} {pos : Pos} {E : Value → Heap → Prop} {es : List Expr} {f : Addr} {fo : Obj} {fd : FuncData} {ds : List Dt} {r : Rec} {own : Led} {L : Addr} {loc : Loc}
noncomputable abbrev Rv (Q : Value → Heap → Prop) (E : Value → Heap → Prop) : Result → Heap → Prop := fun r h' => match r with | .ok (.ret v) => Q v h' | .ok _ => False | .error e => E e h'
theorem Wp_callF {args : List (Bool × Sem Value)} {Q : Value → Heap → Prop} (hd' : fo.data = .func fd) (hne : ∃ x r, args = (false, x) :: r)
    (x : Wp c A (spliced args) (fun vs h₁ => h₁.get? f = some fo ∧ Cd c A (.call (.ref f) ⟨vs, []⟩) (Rv Q E) h₁) E h) : Wp c A (callWith pos (.ref f) [] args []) Q E h :=
  ⟨fun s hs hr => callWith_function (o := fo) (fd := fd) (by
    obtain ⟨y, l, rfl⟩ := hne
    exact Calls.evalArgs_plain (x.wpAny_of hs hr fun vs s₁ y r₁ => ⟨⟨y.1, hd'⟩, (Wp_call y.2).run s₁ rfl r₁⟩))⟩
theorem Wp_CallD {x : Str} {p : Pos} {Q : Value → Heap → Prop} (D : St c r g own L loc h) (hf : Ev c A (eval (.Name x p) env) g h fun _ _ v => v = .ref f) (ho : c.b.get? f = some fo) (hd' : fo.data = .func fd)
    (a : EvA c A env pos es g h ds) (hne : ∃ x r, backTo pos (starEach es env) = (false, x) :: r)
    (k : ∀ vs g' h', St c r g' own L loc h' → Gr g h g' h' → Dens g' vs ds → Cd c A (.call (.ref f) ⟨vs, []⟩) (Rv Q E) h') : Wp c A (eval (.Call (.Name x p) es [] pos) env) Q E h :=
  Wp_Call hf D.gr fun g₁ h₁ G₁ => Wp_callF hd' hne ((a.up G₁).wp (D.grow G₁) fun vs g₂ h₂ D₂ G₂ dv => ⟨D₂.gh _ _ (D₂.cb _ _ ho), k vs g₂ h₂ D₂ (G₁.trans G₂) dv⟩)
theorem eCallF {x : Str} {p : Pos} {P : FB → Heap → Value → Prop} {P₀ : FB → Heap → List Value → Prop} (B : Bas c g h) (hf : Ev c A (eval (.Name x p) env) g h fun _ _ v => v = .ref f) (ho : c.b.get? f = some fo) (hd' : fo.data = .func fd)
    (a : Ev c A (spliced (backTo pos (starEach es env))) g h P₀) (hne : ∃ x r, backTo pos (starEach es env) = (false, x) :: r)
    (k : ∀ vs g' h', Gr g h g' h' → P₀ g' h' vs → Cd c A (.call (.ref f) ⟨vs, []⟩) (fun r h'' => ∃ v g'', r = .ok (.ret v) ∧ Gr g' h' g'' h'' ∧ P g'' h'' v) h') : Ev c A (eval (.Call (.Name x p) es [] pos) env) g h P :=
  Ev_Call hf ⟨fun g₁ h₁ G Q E q => Wp_callF hd' hne (a.go g₁ h₁ G _ _ fun vs g₂ h₂ G₂ z => ⟨G₂.gh _ _ (G₂.sub _ _ (G.sub _ _ (B.1 _ _ ho))), (k vs g₂ h₂ (G.trans G₂) z).mono fun r h' ⟨v, g₃, e, G₃, y⟩ => by
    subst e
    exact q v g₃ h' (G₂.trans G₃) y⟩)⟩
end
section
variable {c : GC} {A : Around} {env : Env} {h : Heap} {pos : Pos} {E : Value → Heap → Prop} {Q : Flow → Heap → Prop} {rest body : List Stmt} {target iter test : Expr}
theorem sWhile (J : Nat → Heap → Prop) (n : Nat) (h0 : J n h)
    (turn : ∀ n h, J n h → Wp c A (isTrue test env (eval test env)) (fun b h₂ => if b then Wp c A (execs body env) (fun f h₃ => match f with
      | .next | .cont => ∃ m, m < n ∧ J m h₃
      | .brk => Wp c A (execs rest env) Q E h₃
      | .ret v => Q (.ret v) h₃) NoE h₂ else Wp c A (execs rest env) Q E h₂) NoE h) : Wp c A (execs (.While test body [] pos :: rest) env) Q E h :=
  sCons ⟨fun s hs hr => wpAny_While (by
    refine codeAny_whileLoop (fun n s => J n s.heap ∧ Rest c s) (fun n s ⟨j, r⟩ => ?_) n ⟨hs ▸ h0, hr⟩
    refine wpAny_mono ((turn n s.heap j).run s rfl r) (fun b s₂ ⟨y, r₂⟩ => ?_) fun _ _ y => y.1.elim
    cases b with
    | true =>
      rw [if_pos rfl] at y ⊢
      refine wpAny_mono (y.run s₂ rfl r₂) (fun f s₃ ⟨z, r₃⟩ => ?_) fun _ _ y => y.1.elim
      cases f with
      | next => obtain ⟨m, hm, jm⟩ := z; exact ⟨m, hm, jm, r₃⟩
      | cont => obtain ⟨m, hm, jm⟩ := z; exact ⟨m, hm, jm, r₃⟩
      | brk => exact ⟨z, r₃⟩
      | ret v => exact ⟨z, r₃⟩
    | false =>
      rw [if_neg (by simp)] at y ⊢
      exact wpAny_execs_nil ⟨y, r₂⟩)⟩
noncomputable def TE (N B : Heap → Prop) (R : Value → Heap → Prop) : Flow → Heap → Prop
  | .next, h => N h
  | .cont, h => N h
  | .brk, h => B h
  | .ret v, h => R v h
noncomputable def ForOk (c : GC) (A : Around) (env : Env) (target : Expr) (body rest : List Stmt) (Q : Flow → Heap → Prop) (E : Value → Heap → Prop) (it : Value) (h₂ : Heap) : Prop :=
  ∃ (J : Nat → Heap → Prop) (n : Nat), J n h₂ ∧ ∀ n h, J n h → ∀ N : Heap → Prop, (∀ m h₆, m < n → J m h₆ → N h₆) →
    Wp c A (pyNext it) (fun o h₁ => o = none ∧ Wp c A (execs rest env) Q E h₁) NoE h ∨
    Wp c A (pyNext it) (fun o h₁ => ∃ v, o = some v ∧ Wp c A (letOwnedTupleGo target it v) (fun _ h₂ => Wp c A (assign target env v) (fun _ h₅ => Wp c A (execs body env) (TE N (fun h => Wp c A (execs rest env) Q E h) fun v h => Q (.ret v) h) NoE h₅) NoE h₂) NoE h₁) NoE h
theorem sFor (x : Wp c A (eval iter env) (fun v h₁ => Wp c A (pyIter v) (fun it h₂ => ForOk c A env target body rest Q E it h₂) E h₁) E h)
    (hs : ∀ x, foldedSetIterable iter env x = pure x) : Wp c A (execs (.For target iter body [] pos :: rest) env) Q E h :=
  sCons ⟨fun s hs' hr => wpAny_For (hs := hs) (x.wpAny_of hs' hr fun v s₁ y r₁ => y.wpAny_of rfl r₁ fun it s₂ fo r₂ => by
    obtain ⟨J, n, j0, turn⟩ := fo
    have no : ∀ {P : Value → Shared → Prop} (e : Value) (s' : Shared), (NoE e s'.heap ∧ Rest c s') → P e s' := fun _ _ y => y.1.elim
    refine codeAny_forLoop_any (fun n s => J n s.heap ∧ Rest c s) (fun n s z => ?_) n ⟨j0, r₂⟩
    rcases turn n s.heap z.1 (fun h => ∃ m, m < n ∧ J m h) (fun m h₆ hm j => ⟨m, hm, j⟩) with y | y
    · refine wpAny_mono (y.run s rfl z.2) (fun o s₃ y => ?_) no
      rw [y.1.1]
      exact wpAny_execs_nil ⟨y.1.2, y.2⟩
    · refine wpAny_mono (y.run s rfl z.2) (fun o s₃ y => y.1.elim fun v w => ?_) no
      rw [w.1]
      refine wpAny_mono (w.2.run s₃ rfl y.2) (fun _ s₄ z => wpAny_mono (z.1.run s₄ rfl z.2) (fun _ s₅ z => wpAny_mono (z.1.run s₅ rfl z.2) (fun f s₆ z => ?_) no) no) no
      cases f with
      | next => exact z.1.elim fun m w => ⟨m, w.1, w.2, z.2⟩
      | cont => exact z.1.elim fun m w => ⟨m, w.1, w.2, z.2⟩
      | brk => exact ⟨z.1, z.2⟩
      | ret v => exact ⟨z.1, z.2⟩)⟩
end
mutual
noncomputable def Dt.dat : Dt → Dat
  | .none => .none
  | .bool b => .bool b
  | .int i => .int i
  | .str x => .str x
  | .tup ds => .tuple (Dt.dats ds)
  | .lst ds => .list (Dt.dats ds)
  | .ref _ => .none
noncomputable def Dt.dats : List Dt → List Dat
  | [] => []
  | d :: ds => d.dat :: Dt.dats ds
end
mutual
inductive Dok : Nat → Dt → Prop
  | none {n} : Dok n .none
  | int {n i} : Dok n (.int i)
  | str {n x} : PyData.strOk x = true → Dok n (.str x)
  | tup {n ds} : Doks n ds → Dok (n + 1) (.tup ds)
  | lst {n ds} : Doks n ds → Dok (n + 1) (.lst ds)
inductive Doks : Nat → List Dt → Prop
  | nil {n} : Doks n []
  | cons {n d ds} : Dok n d → Doks n ds → Doks n (d :: ds)
end
theorem Dok.both {P : Nat → Dt → Prop} {Q : Nat → List Dt → Prop} (hn : ∀ n, P n .none) (hi : ∀ n i, P n (.int i)) (hs : ∀ n x, PyData.strOk x = true → P n (.str x)) (ht : ∀ n ds, Q n ds → P (n + 1) (.tup ds)) (hl : ∀ n ds, Q n ds → P (n + 1) (.lst ds))
    (h0 : ∀ n, Q n []) (hc : ∀ n d ds, P n d → Q n ds → Q n (d :: ds)) : (∀ n d, Dok n d → P n d) ∧ ∀ n ds, Doks n ds → Q n ds :=
  ⟨fun _ _ h => Dok.rec (motive_1 := fun n d _ => P n d) (motive_2 := fun n ds _ => Q n ds) (hn _) (hi _ _) (fun h => hs _ _ h) (fun _ q => ht _ _ q) (fun _ q => hl _ _ q) (h0 _) (fun _ _ p q => hc _ _ _ p q) h,
   fun _ _ h => Doks.rec (motive_1 := fun n d _ => P n d) (motive_2 := fun n ds _ => Q n ds) (hn _) (hi _ _) (fun h => hs _ _ h) (fun _ q => ht _ _ q) (fun _ q => hl _ _ q) (h0 _) (fun _ _ p q => hc _ _ _ p q) h⟩
theorem Dok.kqd2 : (∀ n d, Dok n d → kqdOk n d.dat = true) ∧ ∀ n ds, Doks n ds → (Dt.dats ds).all (kqdOk n) = true :=
  Dok.both (fun n => by cases n <;> rfl) (fun n i => by cases n <;> rfl) (fun n x h => by cases n <;> exact h) (fun _ _ q => q) (fun _ _ q => q) (fun _ => rfl)
    fun n d ds p q => by rw [Dt.dats, List.all_cons, p, q]; rfl
theorem Dok.kqd {n : Nat} {d : Dt} (h : Dok n d) : kqdOk n d.dat = true := Dok.kqd2.1 n d h
theorem Dok.reads2 {g : FB} {h : Heap} (gh : ∀ a o, g a = some o → h.get? a = some o) : (∀ (n : Nat) d, Dok n d → ∀ v, Den g v d → ∃ as, Reads h v (kqdP d.dat) as) ∧ ∀ (n : Nat) ds, Doks n ds → ∀ vs, Dens g vs ds → ∃ as, ReadsAll h vs (kqdPs (Dt.dats ds)) as :=
  Dok.both (fun _ v p => p.none_inv ▸ ⟨_, .none⟩) (fun _ i v p => p.int_inv.elim fun t e => e ▸ ⟨_, .int _ _⟩) (fun _ x _ v p => p.str_inv.elim fun t e => e ▸ ⟨_, .str _ _⟩)
    (fun _ ds q v p => by
      obtain ⟨a, vs, n, rfl, e, k⟩ := p.tup_inv
      exact (q _ k).elim fun as r => ⟨_, .tuple (gh _ _ e) rfl rfl r⟩)
    (fun _ ds q v p => by
      obtain ⟨a, vs, n, rfl, e, k⟩ := p.lst_inv
      exact (q _ k).elim fun as r => ⟨_, .list (gh _ _ e) rfl rfl r⟩)
    (fun _ vs p => by cases p; exact ⟨_, .nil⟩)
    fun _ d ds q r vs p => by
      cases p with
      | cons p ps => exact (q _ p).elim fun as x => (r _ ps).elim fun bs y => ⟨_, .cons x y⟩
theorem Dok.reads {g : FB} {h : Heap} (gh : ∀ a o, g a = some o → h.get? a = some o) {n : Nat} {d : Dt} {v : Value} (q : Dok n d) (p : Den g v d) : ∃ as, Reads h v (kqdP d.dat) as := (Dok.reads2 gh).1 n d q v p
theorem Doks.reads {g : FB} {h : Heap} (gh : ∀ a o, g a = some o → h.get? a = some o) {n : Nat} {ds : List Dt} {vs : List Value} (q : Doks n ds) (p : Dens g vs ds) : ∃ as, ReadsAll h vs (kqdPs (Dt.dats ds)) as := (Dok.reads2 gh).2 n ds q vs p
theorem Dok.inj2 : (∀ (n : Nat) d, Dok n d → ∀ m e, Dok m e → d.dat = e.dat → d = e) ∧ ∀ (n : Nat) ds, Doks n ds → ∀ m es, Doks m es → Dt.dats ds = Dt.dats es → ds = es :=
  Dok.both (fun _ _ _ q h => by cases q <;> first | rfl | cases h) (fun _ _ _ _ q h => by cases q <;> first | (cases h; rfl) | cases h) (fun _ _ _ _ _ q h => by cases q <;> first | (cases h; rfl) | cases h)
    (fun _ ds p _ _ q h => by cases q <;> first | exact congrArg Dt.tup (p _ _ ‹_› (Dat.tuple.inj h)) | cases h) (fun _ ds p _ _ q h => by cases q <;> first | exact congrArg Dt.lst (p _ _ ‹_› (Dat.list.inj h)) | cases h)
    (fun _ _ _ q h => by cases q <;> first | rfl | cases h) fun _ d ds p ps _ _ q h => by
      cases q with
      | nil => cases h
      | cons q qs => exact congr (congrArg _ (p _ _ q (List.cons.inj h).1)) (ps _ _ qs (List.cons.inj h).2)
theorem Dok.inj {n m : Nat} {d e : Dt} (p : Dok n d) (q : Dok m e) (h : d.dat = e.dat) : d = e := Dok.inj2.1 n d p m e q h
theorem Dok.eqv {n m : Nat} {d e : Dt} (p : Dok n d) (q : Dok m e) : PyData.eqv (kqdP d.dat) (kqdP e.dat) = true ↔ d = e :=
  (kqd_eqv n d.dat e.dat m p.kqd q.kqd).trans ⟨p.inj q, fun h => by rw [h]⟩
theorem Dok.shaped {n : Nat} {d : Dt} (p : Dok n d) (hn : n ≤ 64) : SeqAt.shaped (kqdP d.dat) = true := by
  have l := kqd_lay n d.dat p.kqd
  unfold SeqAt.shaped
  rw [l.1, Bool.true_and]
  exact decide_eq_true (Nat.le_trans l.2 hn)
theorem Doks.of {n : Nat} {ds : List Dt} (h : ∀ d ∈ ds, Dok n d) : Doks n ds := by
  induction ds with
  | nil => exact .nil
  | cons d ds ih => exact .cons (h d (.head _)) (ih fun e he => h e (.tail _ he))
theorem Doks.mem {n : Nat} {ds : List Dt} (h : Doks n ds) : ∀ d ∈ ds, Dok n d := by
  induction ds with
  | nil => intro _ h; cases h
  | cons d ds ih =>
    obtain _ | ⟨p, ps⟩ := h
    intro e he
    rcases List.mem_cons.mp he with rfl | he
    · exact p
    · exact ih ps e he
theorem Doks.ints {n : Nat} {ns : List Int} : Doks n (ns.map .int) := .of fun d hd => by
  obtain ⟨i, _, rfl⟩ := List.mem_map.mp hd
  exact .int
theorem LstAt.reads {g : FB} {h : Heap} {a : Addr} {ds : List Dt} {n : Nat} (gh : ∀ a o, g a = some o → h.get? a = some o) (x : LstAt g h a ds) (ok : Doks n ds) : ∃ as, Reads h (.ref a) (kqdP (Dt.lst ds).dat) as := by
  obtain ⟨vs, k, e, p⟩ := x
  obtain ⟨as, r⟩ := ok.reads gh p
  exact ⟨_, by rw [Dt.dat, kqdP]; exact .list e rfl rfl (by simpa using r)⟩
section
variable {c : GC} {A : Around} {env : Env} {g : FB} {h : Heap} {l r : Expr} {pos : Pos} {ds es : List Dt} {n m : Nat} {b : Bool} {v w : Value} {d e : Dt}
theorem cmp_neL {a a' : Addr} (x : LstAt g h a ds) (y : LstAt g h a' es) (ok : Doks n ds) (ok' : Doks m es) (hn : n < 64) (hm : m < 64) (hu : A.units + 64 < cLine) (hb : b = true ↔ ds ≠ es) : CmpB c A .NotEq (.ref a) (.ref a') g h b :=
  .of fun g₁ s G Q E q => by
    obtain ⟨as, ra⟩ := (x.gr G).reads G.gh ok
    obtain ⟨bs, rb⟩ := (y.gr G).reads G.gh ok'
    refine ne_dataH ra rb ((Dok.lst ok).shaped hn) ((Dok.lst ok').shaped hm) hu ?_
    have e := (Dok.lst ok).eqv (Dok.lst ok')
    rw [show (!PyData.eqv (kqdP (Dt.lst ds).dat) (kqdP (Dt.lst es).dat)) = b from ?_]
    · exact q _ s.toks rfl
    · rw [Dt.lst.injEq] at e
      cases hz : PyData.eqv (kqdP (Dt.lst ds).dat) (kqdP (Dt.lst es).dat) with
      | true => cases b with
        | true => exact absurd (e.mp hz) (hb.mp rfl)
        | false => rfl
      | false => cases b with
        | true => rfl
        | false =>
          exfalso
          have h1 : ¬ ds = es := fun q => by rw [e.mpr q] at hz; cases hz
          exact absurd (hb.mpr h1) (by simp)
theorem bNeL (p : EvL c A env l g h ds) (q : EvL c A env r g h es) (ok : Doks n ds) (ok' : Doks m es) (hn : n < 64) (hm : m < 64) (hu : A.units + 64 < cLine) (hb : b = true ↔ ds ≠ es) (hm' : behindInMarks .NotEq r = false) : EvB c A env (.Compare l [.NotEq] [r] pos) g h b := by
  refine .eq (isTrue_Compare1 ..) (p.bind fun v g₁ h₁ G₁ ⟨a, e, x⟩ => ?_)
  subst e
  rw [markedBehindIn_of_false hm']
  refine (q.up G₁).hold.bind fun w g₂ h₂ G₂ ⟨a', e, y⟩ => ?_
  subst e
  refine .stand ((cmp_neL (x.gr G₂) y ok ok' hn hm hu hb).oper.bind fun u g₃ h₃ G₃ z => ?_)
  subst z
  exact ev_truthy_bool.hold
theorem Doks.any {n m : Nat} {d : Dt} (q : Dok m d) : ∀ {ds : List Dt}, Doks n ds → ((kqdPs (Dt.dats ds)).any (fun y => PyData.eqv y (kqdP d.dat)) = true ↔ d ∈ ds)
  | [], _ => by simp [Dt.dats, kqdPs]
  | x :: ds, h => by
    obtain _ | ⟨p, ps⟩ := h
    rw [Dt.dats, kqdPs, List.any_cons, Bool.or_eq_true, p.eqv q, ps.any q, List.mem_cons]
    constructor <;> rintro (z | z) <;> first | exact .inl z.symm | exact .inr z
theorem bNotIn {k pos'} (q : EvL c A env r g h ds) (ok : Doks n ds) (hn : n < 32) (hu : A.units + 64 < cLine) (hb : b = true ↔ Dt.none ∉ ds) (hm' : behindInMarks .NotIn r = false) : EvB c A env (.Compare (.Constant .none k pos') [.NotIn] [r] pos) g h b := by
  refine .eq (isTrue_Compare1 ..) (eNone.bind fun v g₁ h₁ G₁ x => ?_)
  cases x.none_inv
  rw [markedBehindIn_of_false hm']
  refine (q.up G₁).hold.bind fun w g₂ h₂ G₂ ⟨a', e, y⟩ => ?_
  subst e
  refine .stand ((Ev.oper (P := fun _ _ u => u = .bool b) (.of fun g₃ s G₃ Q E q => ?_)).bind fun u g₃ h₃ G₃ z => ?_)
  · obtain ⟨as, ra⟩ := (y.gr G₃).reads G₃.gh ok
    have l := kqd_lay (n + 1) (Dt.lst ds).dat (Dok.lst ok).kqd
    rw [Dt.dat, kqdP] at l
    simp only [PyData.canLay0, PyData.depth] at l
    rw [Dt.dat, kqdP] at ra
    refine SeqAt.notIn_list_reads ra .none l.1 (by rfl) ?_ ?_
    · have := Nat.min_le_right (PyData.depthAll (kqdPs (Dt.dats ds))) PyData.none.depth
      have e : PyData.none.depth = 0 := rfl
      (first | lia | omega)
    · have e := ok.any (Dok.none (n := 0))
      rw [show (!(kqdPs (Dt.dats ds)).any fun y => PyData.eqv y .none) = b from ?_]
      · exact q _ s.toks rfl
      · rw [Bool.eq_iff_iff, Bool.not_eq_true', hb, ← e]
        show _ ↔ ¬ ((kqdPs (Dt.dats ds)).any fun y => PyData.eqv y PyData.none) = true
        simp
  · subst z
    exact ev_truthy_bool.hold
end
section
variable {c : GC} {A : Around} {env : Env} {g : FB} {h : Heap} {pos p : Pos} {es : List Expr} {x : Str} {i j k : Int} {ds : List Dt} {e e₁ e₂ e₃ : Expr} {d : Dt}
theorem Dens.i2 {vs : List Value} (z : Dens g vs [.int i, .int j]) : ∃ t u, vs = [.int i t, .int j u] := by
  obtain _ | ⟨p, ps⟩ := z
  obtain _ | ⟨q, qs⟩ := ps
  cases qs
  obtain ⟨t, rfl⟩ := p.int_inv
  obtain ⟨u, rfl⟩ := q.int_inv
  exact ⟨t, u, rfl⟩
theorem Dens.i3 {vs : List Value} (z : Dens g vs [.int i, .int j, .int k]) : ∃ t u w, vs = [.int i t, .int j u, .int k w] := by
  obtain _ | ⟨p, ps⟩ := z
  obtain ⟨u, w, rfl⟩ := Dens.i2 ps
  obtain ⟨t, rfl⟩ := p.int_inv
  exact ⟨t, u, w, rfl⟩
theorem Dens.one_inv {vs : List Value} (z : Dens g vs [d]) : ∃ v, vs = [v] ∧ Den g v d := by
  obtain _ | ⟨p, ps⟩ := z
  cases ps
  exact ⟨_, rfl, p⟩
theorem min_def' (i j : Int) : (if j < i then j else i) = min i j := by rw [Int.min_def]; split <;> split <;> (first | lia | omega)
theorem eMin (hh : A.handled = none) (hf : Ev c A (eval (.Name x p) env) g h fun _ _ v => v = .builtin "min") (a : EvA c A env pos es g h [.int i, .int j])
    (hp : (backTo pos (starEach es env)).any (·.1) = false) (hne : ∃ x r, backTo pos (starEach es env) = (false, x) :: r) : EvD c A env (.Call (.Name x p) es [] pos) g h (.int (min i j)) :=
  eCallB hf a (fun vs g' h' G z => by
    obtain ⟨t, u, rfl⟩ := z.i2
    exact .ofG fun g₁ s G₁ Q E q => min_two_ints hh fun h'' tk hk => by
      have := q (if j < i then .int j u else .int i t) h'' tk g₁ (.heap G₁.gh hk) (by rw [← min_def']; split <;> exact .int _ _)
      exact this) hp (.inr hne)
theorem eMax3 (hh : A.handled = none) (hf : Ev c A (eval (.Name x p) env) g h fun _ _ v => v = .builtin "max") (a : EvA c A env pos es g h [.int i, .int j, .int k])
    (hp : (backTo pos (starEach es env)).any (·.1) = false) (hne : ∃ x r, backTo pos (starEach es env) = (false, x) :: r) : EvD c A env (.Call (.Name x p) es [] pos) g h (.int (max (max i j) k)) :=
  eCallB hf a (fun vs g' h' G z => by
    obtain ⟨t, u, w, rfl⟩ := z.i3
    exact .ofG fun g₁ s G₁ Q E q => max_three_ints hh fun h'' tk hk => by
      refine q _ h'' tk g₁ (.heap G₁.gh hk) ?_
      have e : max (max i j) k = if j > i then (if k > j then k else j) else (if k > i then k else i) := by
        rw [Int.max_def, Int.max_def]; (repeat' split) <;> (first | lia | omega)
      rw [e]
      split <;> split <;> exact .int _ _) hp (.inr hne)
theorem eLen (hf : Ev c A (eval (.Name x p) env) g h fun _ _ v => v = .builtin "len") (a : EvL c A env e g h ds) (hse : starEach [e] env = [(false, eval e env)]) (hs : ds.length < 2 ^ 62) : EvD c A env (.Call (.Name x p) [e] [] pos) g h (.int ds.length) := by
  have hb : backTo pos (starEach [e] env) = [(false, eval e env)] := by rw [hse]; rfl
  refine eCallB (P₀ := fun g' h' vs => ∃ a, vs = [.ref a] ∧ LstAt g' h' a ds) hf ?_ (fun vs g' h' G ⟨a, q, vs', n, e', k⟩ => ?_) (by rw [hb]; rfl) (.inr ⟨_, _, hb⟩)
  · rw [hb]
    exact ⟨fun g₁ h₁ G Q E q => ⟨fun s hs hr => Calls.spliced_cons ((a.go g₁ h₁ G _ _ fun v g₂ h₂ G₂ z => (⟨fun s hs hr => Calls.spliced_nil ⟨hs ▸ q [v] g₂ h₂ G₂ (by obtain ⟨a, e, z⟩ := z; exact ⟨a, by rw [e], z⟩), hr⟩⟩ : Wp c A (spliced []) (fun vs => Q (v :: vs)) E h₂)).wpAny_of hs hr fun v s₁ y r₁ => y.run s₁ rfl r₁)⟩⟩
  · subst q
    exact .of fun g₁ s G₁ Q E q => PyProof.Rows.len_list ⟨_, G₁.kp _ _ e', rfl, n, rfl⟩ (by simp [k.length]; (first | lia | omega)) (q _ _ (by rw [show (vs'.toArray.size : Int) = ds.length by simp [k.length]]; exact .int _ _))
end
inductive MadeK (c : GC) (r : Rec) (L : Addr) (loc : Loc) (mk : List Dt → Dt) (Q : Value → Heap → Prop) (vs : List Value) (h₁ : Heap) : Prop
  | mk (g₁ : FB) (own₁ : Led) (ds : List Dt) : St c r g₁ own₁ L loc h₁ → Dens g₁ vs ds → ds.length ≤ sizeLine → (∀ v g₂ h₂, St c r g₂ own₁ L loc h₂ → Sub g₁ g₂ → Den g₂ v (mk ds) → Q v h₂) → MadeK c r L loc mk Q vs h₁
section
variable {c : GC} {A : Around} {env : Env} {g : FB} {h : Heap} {pos apos p : Pos} {es : List Expr} {x : Str} {i j k : Int} {ds : List Dt} {e e₁ e₂ e₃ o : Expr} {d : Dt} {E : Value → Heap → Prop} {f : Addr} {fo : Obj} {fd : FuncData}
  {r : Rec} {own own' mu rest' : Led} {L a : Addr} {loc : Loc}
theorem Wp_callPop0 {Q : Value → Heap → Prop} {kk : Nat} (D : St c r g own L loc h) (po : EvD c A env o g h (.ref a)) (U : Up a (.lst (d :: ds)) (.lst ds) own own') (hsz : ds.length < sizeLine)
    (hbase : attributeBase o "pop" env (eval o env) = eval o env) (hline : (apos.endLine == pos.line) = true)
    (k : ∀ v g' h', St c r g' own' L loc h' → Sub g g' → Den g' v d → Q v h') : Wp c A (eval (.Call (.Attribute o "pop" apos) [.Constant (.int 0) kk p] [] pos) env) Q E h := by
  refine Wp_meth PySem.F.plainAttrs_list PySem.F.slot_list_pop PySem.F.type_list_pop (po.wp D fun ov g₁ h₁ D₁ G₁ q => ?_) hbase rfl hline rfl (.inr ⟨_, _, rfl⟩)
  cases q.ref_inv
  refine ⟨D₁.lstType U.mem, Wa_cons ((eInt (c := c)).wp D₁ fun v g₂ h₂ D₂ G₂ dv => Wa_nil ?_) rfl⟩
  obtain ⟨t, rfl⟩ := dv.int_inv
  exact Wp_pop0 D₂ U hsz fun v h' dv D' => k v g₂ h' D' (G₁.sub.trans G₂.sub) dv
theorem Wp_CallM {Q : Value → Heap → Prop} {ks : List Addr} {Post : FB → Value → Led → Prop} (D : St c r g own L loc h) (hf : Ev c A (eval (.Name x p) env) g h fun _ _ v => v = .ref f) (ho : c.b.get? f = some fo) (hd' : fo.data = .func fd)
    (a : EvA c A env pos es g h ds) (hne : ∃ x r, backTo pos (starEach es env) = (false, x) :: r) (S : Sel own mu rest') (hk : ∀ k ∈ ks, k ∈ mu.map (·.1))
    (spec : ∀ vs g₁ h₁, Pre c g₁ mu h₁ → Dens g₁ vs ds → Sub g g₁ → Cd c A (.call (.ref f) ⟨vs, []⟩) (fun r h' => ∃ v g' own', r = .ok (.ret v) ∧ Ret ⟨g₁, h₁, ks⟩ g' own' h' ∧ Post g' v own') h₁)
    (k : ∀ v g' own' h', St c r g' (own' ++ rest') L loc h' → Sub g g' → Post g' v own' → Q v h') : Wp c A (eval (.Call (.Name x p) es [] pos) env) Q E h :=
  Wp_CallD D hf ho hd' a hne fun vs g₁ h₁ D₁ G₁ dv => (spec vs g₁ h₁ (D₁.preSel S) dv G₁.sub).mono fun r' h' ⟨v, g', own', e, R, P⟩ => by
    subst e
    exact k v g' own' h' (D₁.after S hk R) (G₁.sub.trans R.g0) P
theorem Wp_ListF {Q : Value → Heap → Prop} (D : St c r g own L loc h) (w : Wa c A pos es env (MadeK c r L loc Dt.lst Q) E h) :
    Wp c A (eval (.List es pos) env) Q E h := by
  refine Wp_eq (show _ = (standAt pos >>= fun _ => spliced (backTo pos (starEach es env)) >>= newList) from rfl) (Wp_bind ⟨fun s hs hr => wpAny_standAt ⟨?_, hr⟩⟩)
  subst hs
  refine Wp_bind (w.imp fun vs h₁ ⟨g₁, own₁, ds, D₁, kv, hsz, q⟩ => ?_)
  refine (ev_newList (c := c) kv hsz g₁ h₁ D₁.gr).go g₁ h₁ D₁.gr Q E fun v g₂ h₂ G ⟨a, e, hn, gn, vs', n, eo, kv'⟩ => ?_
  subst e
  obtain ⟨G₃, sb, e'⟩ := G.fz hn gn eo
  exact q _ _ _ (D₁.grow G₃) G₃.sub (.lst e' (kv'.mono sb))
end
section
variable {c : GC} {r : Rec} {g : FB} {own own' : Led} {L d : Addr} {loc loc' : Loc} {h h' : Heap} {o : Obj} {x x' : OC}
theorem St.lose (D : St c r g own L loc h) (S : Sel own [(d, x)] own') (hd : r.h.get? d = none) (hk : ∀ b o, b ≠ d → h.get? b = some o → h'.get? b = some o) : St c r g own' L loc h' := by
  have hm := S.memL.1 _ (.head _)
  have z := D.ow _ hm
  obtain ⟨_, nd, ap⟩ := S.nd D.nd
  refine ⟨⟨fun b o e => hk _ _ (fun q => by rw [q, z.2] at e; cases e) (D.gh _ _ e), fun p hp => ?_, nd, D.g0, D.fr, fun b o hb e => hk _ _ (fun q => ?_) (D.kp b o hb e), fun p hp => D.os p (S.memL.2 p hp), fun b o e => ?_⟩, D.cb, D.ns.at' .rfl (fun o e => hk _ _ (Ne.symm (D.oL _ hm)) e), D.gL, fun p hp => D.oL p (S.memL.2 p hp), D.Lr⟩
  · have y := D.ow p (S.memL.2 p hp)
    obtain ⟨o', e, i'⟩ := y.1
    exact ⟨⟨o', hk _ _ (Ne.symm (ap _ (.head _) p hp)) e, i'⟩, y.2⟩
  · rw [q, hd] at e; cases e
  · obtain ⟨o', e'⟩ := D.al b o e
    exact ⟨o', hk _ _ (fun q => by rw [q, hd] at e; cases e) e'⟩
end
noncomputable abbrev OC.ex (o : Obj) : OC := .pr (· = o)
structure Iter (c : GC) (A : Around) (target : Expr) (it : Value) (g₀ : FB) (X : Nat → Led → Heap → Prop) (n : Nat) (item : Nat → Dt) : Prop where
  self : ∀ {i pre h}, X i pre h → ∀ (Q : Value → Heap → Prop) (E : Value → Heap → Prop), Q it h → Wp c A (pyIter it) Q E h
  ex : ∀ {i pre h}, X i pre h → ∀ p ∈ pre, ∃ o, p.2 = .ex o
  fr : ∀ {i pre h h'}, X i pre h → (∀ p ∈ pre, ∀ o, h.get? p.1 = some o → h'.get? p.1 = some o) → (∀ a o, g₀ a = some o → h.get? a = some o) → (∀ a o, g₀ a = some o → h'.get? a = some o) → X i pre h'
  step : ∀ {i pre r g own L loc h}, i < n → X i pre h → St c r g (pre ++ own) L loc h → Sub g₀ g → ∀ (Q : Value → Heap → Prop) (E : Value → Heap → Prop),
    (∀ v pre' g' h', St c r g' (pre' ++ own) L loc h' → Sub g g' → X (i + 1) pre' h' → Den g' v (item i) → Q v h') →
    Wp c A (pyNext it) (fun o h₁ => ∃ v, o = some v ∧ Wp c A (letOwnedTupleGo target it v) (fun _ h₂ => Q v h₂) E h₁) E h
  done : ∀ {pre r g own L loc h}, X n pre h → St c r g (pre ++ own) L loc h → Sub g₀ g → (∀ p ∈ pre, r.h.get? p.1 = none) → ∀ (Q : Heap → Prop) (E : Value → Heap → Prop),
    (∀ h', St c r g own L loc h' → Q h') → Wp c A (pyNext it) (fun o h' => o = none ∧ Q h') E h
theorem Iter.keep {c : GC} {A : Around} {target : Expr} {it : Value} {g₀ : FB} {X : Nat → Led → Heap → Prop} {n : Nat} {item : Nat → Dt} (I : Iter c A target it g₀ X n item)
    {i : Nat} {pre own own' : Led} {r r' : Rec} {g g' : FB} {L L' : Addr} {loc loc' : Loc} {h h' : Heap} (x : X i pre h) (D : St c r g (pre ++ own) L loc h) (D' : St c r' g' (pre ++ own') L' loc' h') (s : Sub g₀ g) (s' : Sub g₀ g') : X i pre h' :=
  I.fr x (fun p hp o e => by
    obtain ⟨o₁, q⟩ := I.ex x p hp
    obtain ⟨⟨o₂, e₂, i₂⟩, _⟩ := D.ow p (List.mem_append_left _ hp)
    obtain ⟨⟨o₃, e₃, i₃⟩, _⟩ := D'.ow p (List.mem_append_left _ hp)
    rw [q] at i₂ i₃
    have i₂ : o₂ = o₁ := i₂
    have i₃ : o₃ = o₁ := i₃
    rw [e] at e₂
    cases e₂
    rw [e₃, i₃, i₂]) (fun a o e => D.gh _ _ (s _ _ e)) (fun a o e => D'.gh _ _ (s' _ _ e))
theorem Iter.ofWalks {c : GC} {A : Around} {target : Expr} {I : Addr} {fp : List Addr} {n : Nat} {P : Nat → Value → Prop} {S : Nat → Heap → Prop} {g₀ : FB} {item : Nat → Dt}
    (W : Walks Pg c.w A I fp [I] n P S) (hfp : ∀ b ∈ fp, b = I ∨ ∃ o, g₀ b = some o) (hl : ∀ i h, S i h → ∃ o, h.get? I = some o) (hP : ∀ i v, P i v → Den g₀ v (item i)) (ht : ∀ v, letOwnedTupleGo target (.ref I) v = pure ()) :
    Iter c A target (.ref I) g₀ (fun i pre h => (∃ o, pre = [(I, .ex o)]) ∧ S i h) n item where
  self := fun ⟨_, s⟩ Q E q => ⟨fun st hs hr => W.self _ _ _ _ (hs ▸ s) ⟨hs ▸ q, hr⟩⟩
  ex := fun ⟨⟨o, e⟩, _⟩ p hp => by subst e; cases List.mem_singleton.mp hp; exact ⟨o, rfl⟩
  fr := fun {i pre h h'} ⟨⟨o, e⟩, s⟩ k k₀ k₁ => by
    subst e
    refine ⟨⟨o, rfl⟩, W.frame i h h' s fun b hb o' e' => ?_⟩
    rcases hfp b hb with rfl | ⟨o₂, e₂⟩
    · exact k _ (.head _) o' e'
    · have := k₀ _ _ e₂; rw [e'] at this; cases this; exact k₁ _ _ e₂
  step := fun {i pre r g own L loc h} hi ⟨⟨o, e⟩, s⟩ D sb Q E k => ⟨fun st hs hr => by
    subst e hs
    refine W.item i st _ _ hi s fun v h' tk p s' hk => ⟨⟨v, rfl, ?_⟩, hr⟩
    obtain ⟨o', e'⟩ := hl _ _ s'
    have D' : St c r g ([(I, .ex o')] ++ own) L loc h' := D.upK .head (fun b o'' q e => hk b o'' (by simpa using q) e) e' rfl
    exact Wp_eq (ht v) (Wp_pure (k v _ g h' D' .rfl ⟨⟨o', rfl⟩, s'⟩ ((hP i v p).mono sb)))⟩
  done := fun {pre r g own L loc h} ⟨⟨o, e⟩, s⟩ D sb hn Q E k => ⟨fun st hs hr => by
    subst e hs
    exact W.done st _ _ s fun h' tk hk => ⟨⟨rfl, k h' (D.lose (.take .all) (hn _ (.head _)) fun b o'' q e => hk b o'' (by simpa using q) e)⟩, hr⟩⟩
section
variable {c : GC} {A : Around} {env : Env} {target iter : Expr} {body rest : List Stmt} {pos : Pos} {Q : Flow → Heap → Prop} {E : Value → Heap → Prop} {it : Value} {g g₀ : FB} {X : Nat → Led → Heap → Prop} {n : Nat} {item : Nat → Dt}
  {r : Rec} {own pre : Led} {L : Addr} {loc : Loc} {h : Heap}
theorem iterJ (I : Iter c A target it g₀ X n item) (x : X 0 pre h) (D : St c r g (pre ++ own) L loc h) (s₀ : Sub g₀ g) (hn : ∀ pre i h, X i pre h → ∀ p ∈ pre, r.h.get? p.1 = none)
    (J : Nat → FB → Led → Loc → Prop) (j0 : J 0 g own loc) {B : (Heap → Prop) → Value → Heap → Prop} {F : Heap → Prop}
    (turn : ∀ i g' g₂ own loc h v pre N, i < n → J i g' own loc → Sub g g' → Sub g' g₂ → St c r g₂ (pre ++ own) L loc h → Den g₂ v (item i) →
      (∀ g'' own' loc' h₆, J (i + 1) g'' own' loc' → Sub g₂ g'' → St c r g'' (pre ++ own') L loc' h₆ → N h₆) → B N v h)
    (fin : ∀ g' own loc h, J n g' own loc → Sub g g' → St c r g' own L loc h → F h) :
    ∃ (J : Nat → Heap → Prop) (n : Nat), J n h ∧ ∀ n h, J n h → ∀ N : Heap → Prop, (∀ m h₆, m < n → J m h₆ → N h₆) →
      Wp c A (pyNext it) (fun o h₁ => o = none ∧ F h₁) NoE h ∨ Wp c A (pyNext it) (fun o h₁ => ∃ v, o = some v ∧ Wp c A (letOwnedTupleGo target it v) (fun _ h₂ => B N v h₂) NoE h₁) NoE h := by
  refine ⟨fun k h' => ∀ P : Prop, (∀ i pre g' own' loc', k + i = n → X i pre h' → J i g' own' loc' → Sub g g' → St c r g' (pre ++ own') L loc' h' → P) → P, n, fun P kP => kP 0 pre g own loc (Nat.add_zero n) x j0 .rfl D, ?_⟩
  refine fun k h' jj N nx => jj _ fun i pre' g' own' loc' hk x' j' s' D' => ?_
  by_cases hi : i < n
  · exact .inr (I.step hi x' D' (s₀.trans s') _ _ fun v pre₂ g₂ h₂ D₂ s₂ x₂ dv => turn i g' g₂ own' loc' h₂ v pre₂ N hi j' s' s₂ D₂ dv fun g₃ own₃ loc₃ h₃ j₃ s₃ D₃ =>
      nx (k - 1) h₃ (by (first | lia | omega)) fun P kP => kP (i + 1) pre₂ g₃ own₃ loc₃ (by (first | lia | omega)) (I.keep x₂ D₂ D₃ ((s₀.trans s').trans s₂) (((s₀.trans s').trans s₂).trans s₃)) j₃ ((s'.trans s₂).trans s₃) D₃)
  · have : i = n := by (first | lia | omega)
    subst this
    exact .inl (I.done x' D' (s₀.trans s') (hn _ _ _ x') _ _ fun h₃ D₃ => fin g' own' loc' h₃ j' s' D₃)
theorem forJ (I : Iter c A target it g₀ X n item) (x : X 0 pre h) (D : St c r g (pre ++ own) L loc h) (s₀ : Sub g₀ g) (hn : ∀ pre i h, X i pre h → ∀ p ∈ pre, r.h.get? p.1 = none)
    (J : Nat → FB → Led → Loc → Prop) (j0 : J 0 g own loc)
    (turn : ∀ i g' g₂ own loc h v pre (Qt : Flow → Heap → Prop), i < n → J i g' own loc → Sub g g' → Sub g' g₂ → St c r g₂ (pre ++ own) L loc h → Den g₂ v (item i) →
      (∀ g'' own' loc' h₆, J (i + 1) g'' own' loc' → Sub g₂ g'' → St c r g'' (pre ++ own') L loc' h₆ → Qt .next h₆) → (∀ v h₆, Q (.ret v) h₆ → Qt (.ret v) h₆) →
      Wp c A (assign target env v) (fun _ h₅ => Wp c A (execs body env) Qt NoE h₅) NoE h)
    (fin : ∀ g' own loc h, J n g' own loc → Sub g g' → St c r g' own L loc h → Wp c A (execs rest env) Q E h) : ForOk c A env target body rest Q E it h :=
  iterJ I x D s₀ hn J j0 (fun i g' g₂ own loc h v pre N hi j s₁ s₂ D₂ dv k => turn i g' g₂ own loc h v pre _ hi j s₁ s₂ D₂ dv k fun _ _ q => q) fin
end
section
variable {c : GC} {r : Rec} {g : FB} {own own' pre pre' : Led} {L a : Addr} {loc loc' : Loc} {h h' : Heap} {o : Obj} {x x' : OC}
theorem St.turn (D : St c r g (pre ++ own) L loc h) (ks : pre'.map (·.1) = pre.map (·.1)) (hk : ∀ b o, b ∉ pre.map (·.1) → h.get? b = some o → h'.get? b = some o) (ho : ∀ p ∈ pre', ∃ o, h'.get? p.1 = some o ∧ p.2.is g o) : St c r g (pre' ++ own) L loc h' := by
  have key : ∀ p ∈ pre', ∃ q ∈ pre, q.1 = p.1 := fun p hp => by
    have : p.1 ∈ pre.map (·.1) := ks ▸ List.mem_map_of_mem (f := (·.1)) hp
    obtain ⟨q, hq, e⟩ := List.mem_map.mp this
    exact ⟨q, hq, e⟩
  have nd := D.nd
  rw [List.map_append] at nd
  have nd' := List.nodup_append.mp nd
  have ne : ∀ p ∈ own, p.1 ∉ pre.map (·.1) := fun p hp q => nd'.2.2 _ q p.1 (List.mem_map_of_mem (f := (·.1)) hp) rfl
  have mem : ∀ a ∈ pre.map (·.1), ∃ q ∈ pre ++ own, q.1 = a := fun a ha => by
    obtain ⟨q, hq, e⟩ := List.mem_map.mp ha
    exact ⟨q, List.mem_append_left _ hq, e⟩
  have gnot : ∀ a o, g a = some o → a ∉ pre.map (·.1) := fun a o e ha => by
    obtain ⟨q, hq, rfl⟩ := mem a ha
    have := (D.ow q hq).2
    rw [e] at this; cases this
  refine ⟨⟨fun b o e => hk _ _ (gnot b o e) (D.gh _ _ e), fun p hp => ?_, by rw [List.map_append, ks, ← List.map_append]; exact D.nd, D.g0, D.fr, fun b o hb e => hk _ _ (fun ha => ?_) (D.kp b o hb e), fun p hp => ?_, D.al.trans fun b o e => ?_⟩, D.cb, D.ns.at' .rfl (fun o e => hk _ _ (fun ha => ?_) e), D.gL, fun p hp => ?_, D.Lr⟩
  · rcases List.mem_append.mp hp with hp | hp
    · obtain ⟨q, hq, e⟩ := key p hp
      exact ⟨ho p hp, e ▸ (D.ow q (List.mem_append_left _ hq)).2⟩
    · have y := D.ow p (List.mem_append_right _ hp)
      obtain ⟨o', e, i'⟩ := y.1
      exact ⟨⟨o', hk _ _ (ne p hp) e, i'⟩, y.2⟩
  · obtain ⟨q, hq, rfl⟩ := mem b ha
    rcases D.os q hq with y | y
    · exact hb y
    · rw [y] at e; cases e
  · rcases List.mem_append.mp hp with hp | hp
    · obtain ⟨q, hq, e⟩ := key p hp
      exact e ▸ D.os q (List.mem_append_left _ hq)
    · exact D.os p (List.mem_append_right _ hp)
  · by_cases ha : b ∈ pre.map (·.1)
    · rw [← ks] at ha
      obtain ⟨p, hp, rfl⟩ := List.mem_map.mp ha
      obtain ⟨o', e', _⟩ := ho p hp
      exact ⟨o', e'⟩
    · exact ⟨o, hk _ _ ha e⟩
  · obtain ⟨q, hq, e'⟩ := mem L ha
    exact D.oL q hq e'
  · rcases List.mem_append.mp hp with hp | hp
    · obtain ⟨q, hq, e⟩ := key p hp
      exact e ▸ D.oL q (List.mem_append_left _ hq)
    · exact D.oL p (List.mem_append_right _ hp)
theorem St.add (D : St c r g own L loc h) (e : h.get? a = some o) (i : x.is g o) (gn : g a = none) (no : a ∉ own.map (·.1)) (nL : a ≠ L) (rn : r.h.get? a = none) : St c r g ((a, x) :: own) L loc h := by
  refine ⟨⟨D.gh, fun p hp => ?_, ?_, D.g0, D.fr, D.kp, fun p hp => ?_, D.al⟩, D.cb, D.ns, D.gL, fun p hp => ?_, D.Lr⟩
  · rcases List.mem_cons.mp hp with rfl | hp
    · exact ⟨⟨o, e, i⟩, gn⟩
    · exact D.ow p hp
  · rw [List.map_cons, List.nodup_cons]; exact ⟨no, D.nd⟩
  · rcases List.mem_cons.mp hp with rfl | hp
    · exact .inr rn
    · exact D.os p hp
  · rcases List.mem_cons.mp hp with rfl | hp
    · exact nL
    · exact D.oL p hp
end
theorem Iter.ofEnum {c : GC} {A : Around} {elts : List Expr} {kk : Nat} {tp : Pos} {e it : Addr} {fp : List Addr} {n : Nat} {P : Nat → Value → Prop} {S : Nat → Heap → Prop} {g₀ : FB} {item : Nat → Dt}
    (W : Draws Pg c.w A.in1 it fp n P S) (hne : e ≠ it) (hef : e ∉ fp) (hfp : ∀ b ∈ fp, b = it ∨ ∃ o, g₀ b = some o) (hP : ∀ i v, P i v → Den g₀ v (item i)) :
    Iter c A (.Tuple elts kk tp) (.ref e) g₀ (fun i pre h => (∃ oe oi, pre = [(e, .ex oe), (it, .ex oi)]) ∧ (∃ old, IsEnum h e it i old) ∧ S i h) n (fun i => .tup [.int i, item i]) where
  self := fun ⟨_, ⟨_, he⟩, _⟩ Q E q => ⟨fun st hs hr => wpAny_pyIter_enum (hs ▸ he) ⟨hs ▸ q, hr⟩⟩
  ex := fun ⟨⟨oe, oi, q⟩, _⟩ p hp => by
    subst q
    rcases List.mem_cons.mp hp with rfl | hp
    · exact ⟨_, rfl⟩
    · cases List.mem_singleton.mp hp; exact ⟨_, rfl⟩
  fr := fun {i pre h h'} ⟨⟨oe, oi, q⟩, ⟨old, he⟩, s⟩ k k₀ k₁ => by
    subst q
    refine ⟨⟨oe, oi, rfl⟩, ⟨old, k _ (.head _) _ he⟩, W.frame i h h' s fun b hb o' e' => ?_⟩
    rcases hfp b hb with rfl | ⟨o₂, e₂⟩
    · exact k _ (.tail _ (.head _)) o' e'
    · have := k₀ _ _ e₂; rw [e'] at this; cases this; exact k₁ _ _ e₂
  step := fun {i pre r g own L loc h} hi ⟨⟨oe, oi, q⟩, ⟨old, he⟩, s⟩ D sb Q E k => ⟨fun st hs hr => by
    subst q hs
    refine wpAny_pyNext_enum_itemD W he s hi hne hef fun x h' tk p ho s' ht hz hk => ⟨⟨_, rfl, ?_⟩, hr⟩
    obtain ⟨o', e'⟩ := W.live _ _ s'
    have hn := Heap.get?_push_self_none st.heap
    obtain ⟨oi₀, ei₀, _⟩ := D.get (.tail _ (.head _))
    have D₁ : St c r g ([(e, .pr fun _ => True), (it, .ex o')] ++ own) L loc h' := D.turn rfl (fun b o hb q => hk b o (fun z => hb (by simp [z])) (fun z => hb (by simp [z])) q) fun p hp => by
      rcases List.mem_cons.mp hp with rfl | hp
      · exact ⟨_, ho, trivial⟩
      · cases List.mem_singleton.mp hp; exact ⟨_, e', rfl⟩
    refine ⟨fun st' hs' hr' => wpAny_letOwnedTupleGo_enum (by rw [hs']; exact ho) fun h'' he'' hs'' => ⟨?_, hr'⟩⟩
    rw [hs'] at hs''
    have D₂ : St c r g ([(e, .ex _), (it, .ex o')] ++ own) L loc h'' := D₁.up .head hs'' he'' rfl
    have nT : ∀ o, st.heap.get? st.heap.objs.size = some o → False := fun o q => by rw [hn] at q; cases q
    have ht'' : h''.get? st.heap.objs.size = some (tupOf [.int i tk, x] 0) := (hs''.2 _ fun z => nT _ (by rw [z]; exact he)).trans ht
    have D₃ := D₂.add (x := .ex (tupOf [.int i tk, x] 0)) ht'' rfl (FB.none_of D.gh hn) (fun z => by
      have z' : st.heap.objs.size ∈ (([(e, .ex oe), (it, .ex oi)] : Led) ++ own).map (·.1) := z
      obtain ⟨p, hp, q⟩ := List.mem_map.mp z'
      obtain ⟨⟨o, eo, _⟩, _⟩ := D.ow p hp
      exact nT o (q ▸ eo)) (fun z => by obtain ⟨o, eo⟩ := D.ns.live; exact nT o (z ▸ eo)) (D.none_of hn)
    obtain ⟨o₄, i₄, D₄, s₄, e₄⟩ := D₃.freeze (.take .all) (D.none_of hn)
    have i₄ : o₄ = tupOf [.int i tk, x] 0 := i₄
    subst i₄
    have s'' : S (i + 1) h'' := W.frame _ h' h'' s' fun b hb o eo => (hs''.2 b fun z => by subst z; exact hef hb).trans eo
    exact k _ _ _ h'' D₄ s₄ ⟨⟨_, _, rfl⟩, ⟨_, by push_cast; exact he''⟩, s''⟩ (.tup e₄ (.cons (.int _ _) (.cons (((hP i x p).mono sb).mono s₄) .nil)))⟩
  done := fun {pre r g own L loc h} ⟨⟨oe, oi, q⟩, ⟨old, he⟩, s⟩ D sb hn Q E k => ⟨fun st hs hr => by
    subst q hs
    refine wpAny_pyNext_enum_endD W he s fun h' hk => ⟨⟨rfl, k h' ?_⟩, hr⟩
    have D₁ : St c r g ((e, .ex oe) :: own) L loc h' := D.lose (.skip (.take .all)) (hn _ (.tail _ (.head _))) hk
    exact D₁.tail⟩
section
variable {c : GC} {A : Around} {env : Env} {target : Expr} {r : Rec} {g : FB} {own : Led} {L : Addr} {loc : Loc} {h : Heap} {v : Value} {ds : List Dt} {Q : Value → Heap → Prop} {E : Value → Heap → Prop} {n : Nat} {item : Nat → Dt}
noncomputable abbrev Got (c : GC) (A : Around) (target : Expr) (r : Rec) (g : FB) (own : Led) (L : Addr) (loc : Loc) (n : Nat) (item : Nat → Dt) (Q : Value → Heap → Prop) : Prop :=
  ∀ it g' h' pre X g₀, Iter c A target it g₀ X n item → X 0 pre h' → St c r g' (pre ++ own) L loc h' → Sub g g' → Sub g₀ g' → (∀ pre i h, X i pre h → ∀ p ∈ pre, r.h.get? p.1 = none) → Q it h'
theorem Got.one {I : Addr} {o : Obj} {fp : List Addr} {P : Nat → Value → Prop} {S : Nat → Heap → Prop} (k : Got c A target r g own L loc n item Q) (D : St c r g own L loc h) (hI : I = h.objs.size) (hf : o.isFreed = false)
    (W : Walks Pg c.w A I fp [I] n P S) (hfp : ∀ b ∈ fp, b = I ∨ ∃ o, g b = some o) (hl : ∀ i h, S i h → ∃ o, h.get? I = some o) (hP : ∀ i v, P i v → Den g v (item i)) (ht : ∀ it v, letOwnedTupleGo target it v = pure ()) (s : S 0 (h.push o)) : Q (.ref I) (h.push o) := by
  subst hI
  refine k _ g _ [(h.objs.size, .ex o)] _ g (Iter.ofWalks W hfp hl hP (ht _)) ⟨⟨_, rfl⟩, s⟩ (D.push hf rfl) .rfl .rfl ?_
  rintro pre i h₂ ⟨⟨o', rfl⟩, _⟩ p hp
  cases List.mem_singleton.mp hp
  exact D.none_of (Heap.get?_push_self_none h)
theorem getD_of {ds : List Dt} {i : Nat} {d : Dt} (e : ds[i]? = some d) : ds.getD i .none = d := by rw [List.getD_eq_getElem?_getD, e]; rfl
theorem Dens.getD {vs : List Value} (k : Dens g vs ds) {i : Nat} {v : Value} (e : vs.toArray[i]? = some v) : Den g v (ds.getD i .none) := by
  have hi : i < ds.length := by
    have := (Array.getElem?_eq_some_iff.mp e).1
    rw [List.size_toArray, k.length] at this; exact this
  obtain ⟨w, e', dw⟩ := k.get (k := i) (d := ds[i]) (List.getElem?_eq_getElem hi)
  rw [List.getElem?_toArray, e'] at e
  cases e
  rw [getD_of (List.getElem?_eq_getElem hi)]; exact dw
theorem itList (D : St c r g own L loc h) (hh : A.handled = none) (dv : Den g v (.lst ds)) (ht : ∀ it v, letOwnedTupleGo target it v = pure ()) (k : Got c A target r g own L loc ds.length (fun i => ds.getD i .none) Q) : Wp c A (pyIter v) Q E h := by
  obtain ⟨a, vs, m, rfl, e, kv⟩ := dv.lst_inv
  refine ⟨fun s hs hr => ?_⟩
  subst hs
  have hl : s.heap.IsList a vs.toArray := ⟨_, D.gh _ _ e, rfl, m, rfl⟩
  have hne : a ≠ s.heap.objs.size := Nat.ne_of_lt (Heap.lt_size (D.gh _ _ e))
  have hsz : vs.toArray.size = ds.length := by rw [List.size_toArray, kv.length]
  rw [← hsz] at k
  refine wpAny_pyIter_list hl ⟨Got.one (n := vs.toArray.size) (item := fun i => ds.getD i .none) k D rfl rfl (Walks.list hh s.heap.objs.size a hne vs.toArray) (fun b hb => ?_) (fun i h' x => let ⟨o, e, _⟩ := x.1; ⟨o, e⟩) (fun i v e => kv.getD e) ht ⟨⟨_, Heap.get?_push_size _ rfl, rfl, rfl⟩, hl.push _⟩, hr⟩
  rcases List.mem_cons.mp hb with rfl | hb
  · exact .inl rfl
  · cases List.mem_singleton.mp hb; exact .inr ⟨_, e⟩
theorem itTup (D : St c r g own L loc h) (hh : A.handled = none) (dv : Den g v (.tup ds)) (ht : ∀ it v, letOwnedTupleGo target it v = pure ()) (k : Got c A target r g own L loc ds.length (fun i => ds.getD i .none) Q) : Wp c A (pyIter v) Q E h := by
  obtain ⟨a, vs, m, rfl, e, kv⟩ := dv.tup_inv
  refine ⟨fun s hs hr => ?_⟩
  subst hs
  have hl : s.heap.IsTuple a vs.toArray := ⟨_, D.gh _ _ e, rfl, m, rfl⟩
  have hne : a ≠ s.heap.objs.size := Nat.ne_of_lt (Heap.lt_size (D.gh _ _ e))
  have hsz : vs.toArray.size = ds.length := by rw [List.size_toArray, kv.length]
  rw [← hsz] at k
  refine wpAny_pyIter_tuple hl ⟨Got.one (n := vs.toArray.size) (item := fun i => ds.getD i .none) k D rfl rfl (Walks.tuple hh s.heap.objs.size a hne vs.toArray) (fun b hb => ?_) (fun i h' x => let ⟨o, e, _⟩ := x.1; ⟨o, e⟩) (fun i v e => kv.getD e) ht ⟨⟨_, Heap.get?_push_size _ rfl, rfl, rfl⟩, hl.push _⟩, hr⟩
  rcases List.mem_cons.mp hb with rfl | hb
  · exact .inl rfl
  · cases List.mem_singleton.mp hb; exact .inr ⟨_, e⟩
noncomputable def sign (x : Str) (i : Nat) : Dt := .str ⟨#[x.cps.toList.getD i 0]⟩
theorem sign_at {x : Str} {i : Nat} {v : Value} (p : SignAt x i v) : Den g v (sign x i) := by
  obtain ⟨c, u, e, rfl⟩ := p
  unfold sign
  rw [show x.cps.toList.getD i 0 = c from by rw [List.getD_eq_getElem?_getD, Array.getElem?_toList, e]; rfl]
  exact .str _ _
theorem itStr {x : Str} (D : St c r g own L loc h) (hh : A.handled = none) (dv : Den g v (.str x)) (ht : ∀ it v, letOwnedTupleGo target it v = pure ()) (k : Got c A target r g own L loc x.cps.size (sign x) Q) : Wp c A (pyIter v) Q E h := by
  obtain ⟨t, rfl⟩ := dv.str_inv
  refine ⟨fun s hs hr => ?_⟩
  subst hs
  cases ha : x.cps.all (· < 128)
  · exact wpAny_pyIter_wide ha ⟨Got.one (n := x.cps.size) (item := sign x) k D rfl rfl (Walks.strWide hh _ x t) (fun b hb => .inl (List.mem_singleton.mp hb)) (fun i h' y => let ⟨o, e, _⟩ := y; ⟨o, e⟩) (fun i v e => sign_at e) ht ⟨_, Heap.get?_push_size _ rfl, rfl, rfl⟩, hr⟩
  · exact wpAny_pyIter_ascii ha ⟨Got.one (n := x.cps.size) (item := sign x) k D rfl rfl (Walks.strAscii hh _ x t) (fun b hb => .inl (List.mem_singleton.mp hb)) (fun i h' y => let ⟨o, e, _⟩ := y; ⟨o, e⟩) (fun i v e => sign_at e) ht ⟨_, Heap.get?_push_size _ rfl, rfl, rfl⟩, hr⟩
noncomputable def RngAt (g : FB) (v : Value) (a b s : Int) : Prop := ∃ x t u w, v = .ref x ∧ g x = some { cls := .type "range", dict := none, data := .fields #[.int a t, .int b u, .int s w], slots := #[] }
theorem itRange {a b st : Int} (D : St c r g own L loc h) (hh : A.handled = none) (dv : RngAt g v a b st) (hsm : Builtin.Range.small a b st = true) (hn : Builtin.Range.rangeSize a b st = (n : Int)) (ht : ∀ it v, letOwnedTupleGo target it v = pure ())
    (k : Got c A target r g own L loc n (fun i => .int (a + i * st)) Q) : Wp c A (pyIter v) Q E h := by
  obtain ⟨x, t, u, w, rfl, e⟩ := dv
  refine ⟨fun s hs hr => ?_⟩
  subst hs
  refine wpAny_pyIter_range (D.gh _ _ e) hsm ⟨Got.one (n := n) (item := fun i => .int (a + i * st)) k D rfl rfl (Walks.range hh s.heap.objs.size a st n) (fun b hb => .inl (List.mem_singleton.mp hb)) (fun i h' y => ⟨_, y⟩) (fun i v ⟨t, e⟩ => by subst e; exact .int _ _) ht ?_, hr⟩
  have := Heap.get?_push_size s.heap (o := { cls := .type "range_iterator", data := .fields #[rawInt a, rawInt (Builtin.Range.rangeSize a b st), rawInt st] }) rfl
  have e1 : a + ((0 : Nat) : Int) * st = a := by simp
  have e2 : (n : Int) - ((0 : Nat) : Int) = Builtin.Range.rangeSize a b st := by rw [hn]; simp
  rw [e1, e2]
  exact this
theorem ev_range1 {j : Int} {t : Tok} : Ev c A (call (.type "range") [.int j t]) g h fun g' _ v => RngAt g' v 0 j 1 := .ofG fun g₁ s G Q E q => by
  refine call_range_1 ?_
  obtain ⟨G₂, e⟩ := Gr.put (o := { cls := .type "range", data := .fields #[.int 0 s.toks, .int j t, .int 1 (s.toks + 1)] }) G.gh rfl
  exact q _ _ _ _ G₂ ⟨_, _, _, _, rfl, e⟩
theorem ev_range3 {a b st : Int} {t u w : Tok} (hs : st ≠ 0) (hp : Builtin.divisionGoesByPylong (b - a) st = false) : Ev c A (call (.type "range") [.int a t, .int b u, .int st w]) g h fun g' _ v => RngAt g' v a b st := .ofG fun g₁ s G Q E q => by
  obtain ⟨G₂, e⟩ := Gr.put (o := { cls := .type "range", data := .fields #[.int a t, .int b u, .int st w] }) G.gh rfl
  exact call_range_3 hs (q _ _ _ _ G₂ ⟨_, _, _, _, rfl, e⟩) (.inl hp)
variable {pos p : Pos} {es : List Expr} {x : Str} {e : Expr}
theorem eRange1 {j : Int} (hf : Ev c A (eval (.Name x p) env) g h fun _ _ v => v = .type "range") (a : EvA c A env pos es g h [.int j])
    (hp : (backTo pos (starEach es env)).any (·.1) = false) (hne : ∃ x r, backTo pos (starEach es env) = (false, x) :: r) : Ev c A (eval (.Call (.Name x p) es [] pos) env) g h fun g' _ v => RngAt g' v 0 j 1 :=
  eCallT hf a (fun vs g' h' G z => by
    obtain ⟨v, rfl, dv⟩ := z.one_inv
    obtain ⟨t, rfl⟩ := dv.int_inv
    exact ev_range1) hp hne
theorem eRange3 {a b st : Int} (hf : Ev c A (eval (.Name x p) env) g h fun _ _ v => v = .type "range") (ar : EvA c A env pos es g h [.int a, .int b, .int st]) (hs : st ≠ 0) (hpp : Builtin.divisionGoesByPylong (b - a) st = false)
    (hp : (backTo pos (starEach es env)).any (·.1) = false) (hne : ∃ x r, backTo pos (starEach es env) = (false, x) :: r) : Ev c A (eval (.Call (.Name x p) es [] pos) env) g h fun g' _ v => RngAt g' v a b st :=
  eCallT hf ar (fun vs g' h' G z => by
    obtain ⟨t, u, w, rfl⟩ := z.i3
    exact ev_range3 hs hpp) hp hne
theorem Got.enum {elts : List Expr} {kk : Nat} {tp : Pos} {e it : Addr} {fp : List Addr} {P : Nat → Value → Prop} {S : Nat → Heap → Prop} {h' : Heap} (k : Got c A (.Tuple elts kk tp) r g own L loc n (fun i => .tup [.int i, item i]) Q) (D : St c r g own L loc h)
    (hi : it = h.objs.size) (he : e = h.objs.size + 1) (hk : ∀ b o, h.get? b = some o → h'.get? b = some o) (hE : IsEnum h' e it 0 .none)
    (W : Draws Pg c.w A.in1 it fp n P S) (hef : e ∉ fp) (hfp : ∀ b ∈ fp, b = it ∨ ∃ o, g b = some o) (hP : ∀ i v, P i v → Den g v (item i)) (s : S 0 h') : Q (.ref e) h' := by
  have hne : e ≠ it := by rw [hi, he]; exact Nat.succ_ne_self _
  have ni : h.get? it = none := Heap.get?_none_of_le (by rw [hi]; exact Nat.le_refl _)
  have nE : h.get? e = none := Heap.get?_none_of_le (by rw [he]; exact Nat.le_succ _)
  obtain ⟨oi, ei⟩ := W.live _ _ s
  have G := Gr.heap D.gh hk
  have D₁ : St c r g ((it, .ex oi) :: own) L loc h' := D.adopt G ni (FB.none_of D.gh ni) ei rfl
  have D₂ : St c r g ((e, .ex _) :: (it, .ex oi) :: own) L loc h' := D₁.add hE rfl (FB.none_of D.gh nE) (fun z => by
    rcases List.mem_cons.mp z with z | z
    · exact hne z
    · obtain ⟨p, hp, q⟩ := List.mem_map.mp z
      obtain ⟨⟨o, eo, _⟩, _⟩ := D.ow p hp
      rw [q, nE] at eo; cases eo) (fun z => by obtain ⟨o, eo⟩ := D.ns.live; rw [← z, nE] at eo; cases eo) (D.none_of nE)
  refine k _ g h' [(e, .ex _), (it, .ex oi)] _ g (Iter.ofEnum W hne hef hfp hP) ⟨⟨_, _, rfl⟩, ⟨_, hE⟩, s⟩ D₂ .rfl .rfl ?_
  rintro pre i h₂ ⟨⟨_, _, rfl⟩, _⟩ p hp
  rcases List.mem_cons.mp hp with rfl | hp
  · exact D.none_of nE
  · cases List.mem_singleton.mp hp; exact D.none_of ni
theorem Wp_enumL {elts : List Expr} {kk : Nat} {tp : Pos} (D : St c r g own L loc h) (hh : A.handled = none) (dv : Den g v (.lst ds)) (k : Got c A (.Tuple elts kk tp) r g own L loc ds.length (fun i => .tup [.int i, ds.getD i .none]) Q) :
    Wp c A (call (.type "enumerate") [v]) (fun w h₁ => Wp c A (pyIter w) Q E h₁) E h := by
  obtain ⟨a, vs, m, rfl, e, kv⟩ := dv.lst_inv
  refine ⟨fun s hs hr => ?_⟩
  subst hs
  have hlt := Heap.lt_size (D.gh _ _ e)
  have hl : s.heap.IsList a vs.toArray := ⟨_, D.gh _ _ e, rfl, m, rfl⟩
  refine call_enumerate_list hl fun h' hE hit hz hk => ⟨⟨fun s₁ hs₁ hr₁ => wpAny_pyIter_enum (by rw [hs₁]; exact hE) ⟨?_, hr₁⟩⟩, hr⟩
  rw [hs₁]
  have hsz : vs.toArray.size = ds.length := by rw [List.size_toArray, kv.length]
  rw [← hsz] at k
  refine Got.enum (n := vs.toArray.size) (item := fun i => ds.getD i .none) k D rfl rfl hk hE (Draws.list (A := A.in1) hh s.heap.objs.size a (Nat.ne_of_lt hlt) vs.toArray) ?_ (fun b hb => ?_) (fun i v e => kv.getD e) ⟨hit, hl.at fun o e => hk _ _ e⟩
  · intro z
    rcases List.mem_cons.mp z with z | z
    · exact absurd z (Nat.succ_ne_self _)
    · have := List.mem_singleton.mp z
      rw [← this] at hlt
      exact absurd hlt (Nat.not_lt.mpr (Nat.le_succ _))
  · rcases List.mem_cons.mp hb with rfl | hb
    · exact .inl rfl
    · cases List.mem_singleton.mp hb; exact .inr ⟨_, e⟩
theorem Wp_enumS {elts : List Expr} {kk : Nat} {tp : Pos} {x : Str} (D : St c r g own L loc h) (hh : A.handled = none) (dv : Den g v (.str x)) (k : Got c A (.Tuple elts kk tp) r g own L loc x.cps.size (fun i => .tup [.int i, sign x i]) Q) :
    Wp c A (call (.type "enumerate") [v]) (fun w h₁ => Wp c A (pyIter w) Q E h₁) E h := by
  obtain ⟨t, rfl⟩ := dv.str_inv
  refine ⟨fun s hs hr => ?_⟩
  subst hs
  refine call_enumerate_str fun h' hE hit hz hk => ⟨⟨fun s₁ hs₁ hr₁ => wpAny_pyIter_enum (by rw [hs₁]; exact hE) ⟨?_, hr₁⟩⟩, hr⟩
  rw [hs₁]
  have ne1 : s.heap.objs.size + 1 ∉ [s.heap.objs.size] := fun hm => Nat.succ_ne_self _ (List.mem_singleton.mp hm)
  cases ha : x.cps.all (· < 128)
  · have hit' : h'.IsStrIter s.heap.objs.size "str_iterator" x t 0 := by simpa [strIterType, ha] using hit
    exact Got.enum (n := x.cps.size) (item := sign x) k D rfl rfl hk hE (Draws.strWide (A := A.in1) hh s.heap.objs.size x t) ne1 (fun b hb => .inl (List.mem_singleton.mp hb)) (fun i v e => sign_at e) hit'
  · have hit' : h'.IsStrIter s.heap.objs.size "str_ascii_iterator" x t 0 := by simpa [strIterType, ha] using hit
    exact Got.enum (n := x.cps.size) (item := sign x) k D rfl rfl hk hE (Draws.strAscii (A := A.in1) hh s.heap.objs.size x t) ne1 (fun b hb => .inl (List.mem_singleton.mp hb)) (fun i v e => sign_at e) hit'
theorem Wp_revL (D : St c r g own L loc h) (hh : A.handled = none) (dv : Den g v (.lst ds)) (ht : ∀ it v, letOwnedTupleGo target it v = pure ()) (k : Got c A target r g own L loc ds.length (fun i => ds.getD (ds.length - 1 - i) .none) Q) :
    Wp c A (call (.type "reversed") [v]) (fun w h₁ => Wp c A (pyIter w) Q E h₁) E h := by
  obtain ⟨a, vs, m, rfl, e, kv⟩ := dv.lst_inv
  refine ⟨fun s hs hr => ?_⟩
  subst hs
  have hl : s.heap.IsList a vs.toArray := ⟨_, D.gh _ _ e, rfl, m, rfl⟩
  have hne : a ≠ s.heap.objs.size := Nat.ne_of_lt (Heap.lt_size (D.gh _ _ e))
  have hsz : vs.toArray.size = ds.length := by rw [List.size_toArray, kv.length]
  have hit : (s.heap.push (revObj a ((vs.toArray.size : Int) - 1))).IsRevIter s.heap.objs.size a ((vs.toArray.size : Int) - 1) := ⟨_, Heap.get?_push_size _ rfl, rfl, rfl⟩
  refine call_reversed_list hl ⟨⟨fun s₁ hs₁ hr₁ => wpAny_pyIter_revIter (by rw [hs₁]; exact hit) ⟨?_, hr₁⟩⟩, hr⟩
  rw [hs₁]
  rw [← hsz] at k
  refine Got.one (n := vs.toArray.size) (item := fun i => ds.getD (vs.toArray.size - 1 - i) .none) k D rfl rfl (Walks.listRev hh s.heap.objs.size a hne vs.toArray) (fun b hb => ?_) (fun i h' x => let ⟨o, e, _⟩ := x.2.1; ⟨o, e⟩) (fun i v e => kv.getD e) ht ⟨Nat.zero_le _, by simpa using hit, hl.push _⟩
  rcases List.mem_cons.mp hb with rfl | hb
  · exact .inl rfl
  · cases List.mem_singleton.mp hb; exact .inr ⟨_, e⟩
theorem Wp_callT1 {T : String} {d : Dt} (D : St c r g own L loc h) (hf : Ev c A (eval (.Name x p) env) g h fun _ _ v => v = .type T) (a : EvD c A env e g h d) (hse : starEach [e] env = [(false, eval e env)])
    (k : ∀ v g' h', St c r g' own L loc h' → Sub g g' → Den g' v d → Wp c A (call (.type T) [v]) Q E h') : Wp c A (eval (.Call (.Name x p) [e] [] pos) env) Q E h := by
  have hb : backTo pos (starEach [e] env) = [(false, eval e env)] := by rw [hse]; rfl
  refine Wp_Call hf D.gr fun g₁ h₁ G₁ => Wp_callT (by rw [hb]; rfl) ⟨_, _, hb⟩ (Wa_cons ((a.up G₁).wp (D.grow G₁) fun v g₂ h₂ D₂ G₂ dv => Wa_nil (k v g₂ h₂ D₂ (G₁.sub.trans G₂.sub) dv)) hse)
end
noncomputable def OC.fm (m : Str → Option Value) : OC := .pr fun o => ∃ es ep, o.data = .dict es ep ∧ StrKeys es ∧ ∀ name, nsFind es name = m name
section
variable {c : GC} {r : Rec} {g g' : FB} {own own' : Led} {L C a : Addr} {loc loc' : Loc} {h h' : Heap} {m m' : Str → Option Value}
noncomputable def Kn (m : Str → Option Value) (g : FB) (loc : Loc) : Prop := ∀ x d, loc.lookup x = some d → ∃ v, m x = some v ∧ Den g v d
theorem Kn.mono (k : Kn m g loc) (s : Sub g g') : Kn m g' loc := fun x d e => let ⟨v, a, b⟩ := k x d e; ⟨v, a, b.mono s⟩
theorem St.into (D : St c r g own L loc h) (hk : ∀ b o, h.get? b = some o → h'.get? b = some o) (hC : h.get? C = none) (hn : h'.Ns C m') : ∃ m, Kn m g loc ∧ St c r g ((L, .fm m) :: own) C [] h' := by
  obtain ⟨m, ⟨oL, es, ep, eL, k1, k2, k3⟩, kn⟩ := D.ns
  refine ⟨m, kn, ⟨⟨fun b o e => hk _ _ (D.gh _ _ e), fun p hp => ?_, ?_, D.g0, D.fr, fun b o hb e => hk _ _ (D.kp b o hb e), fun p hp => ?_, D.al.trans (.of hk)⟩, D.cb, ⟨m', hn, fun _ _ q => by simp at q⟩, FB.none_of D.gh hC, fun p hp => ?_, D.none_of hC⟩⟩
  · rcases List.mem_cons.mp hp with rfl | hp
    · exact ⟨⟨oL, hk _ _ eL, es, ep, k1, k2, k3⟩, D.gL⟩
    · obtain ⟨⟨o, e, i⟩, n⟩ := D.ow p hp
      exact ⟨⟨o, hk _ _ e, i⟩, n⟩
  · rw [List.map_cons, List.nodup_cons]
    refine ⟨fun q => ?_, D.nd⟩
    obtain ⟨p, hp, e⟩ := List.mem_map.mp q
    exact D.oL p hp e
  · rcases List.mem_cons.mp hp with rfl | hp
    · exact .inr D.Lr
    · exact D.os p hp
  · rcases List.mem_cons.mp hp with rfl | hp
    · intro e
      have e : L = C := e
      rw [← e, eL] at hC; cases hC
    · intro e
      obtain ⟨⟨o, eo, _⟩, _⟩ := D.ow p hp
      rw [e, hC] at eo; cases eo
theorem St.outof (D : St c r g ((L, .fm m) :: own) C loc' h) (hLr : r.h.get? L = none) (k : Kn m g loc) (hk : ∀ b o, b ≠ C → h.get? b = some o → h'.get? b = some o) : St c r g own L loc h' := by
  have z := D.ow _ (.head _)
  obtain ⟨⟨oL, eL, es, ep, k1, k2, k3⟩, gL⟩ := z
  have LC : L ≠ C := D.oL _ (.head _)
  have nd := D.nd
  rw [List.map_cons, List.nodup_cons] at nd
  have gC : ∀ b o, g b = some o → b ≠ C := fun b o e q => by rw [q, D.gL] at e; cases e
  refine ⟨⟨fun b o e => hk _ _ (gC b o e) (D.gh _ _ e), fun p hp => ?_, nd.2, D.g0, D.fr, fun b o hb e => hk _ _ (fun q => by rw [q, D.Lr] at e; cases e) (D.kp b o hb e), fun p hp => D.os p (.tail _ hp), fun b o e => ?_⟩, D.cb, ⟨m, ⟨oL, es, ep, hk _ _ LC eL, k1, k2, k3⟩, k⟩, gL, fun p hp e => nd.1 (e ▸ List.mem_map_of_mem (f := (·.1)) hp), hLr⟩
  · obtain ⟨⟨o, e, i⟩, n⟩ := D.ow p (.tail _ hp)
    exact ⟨⟨o, hk _ _ (D.oL p (.tail _ hp)) e, i⟩, n⟩
  · obtain ⟨o', e'⟩ := D.al b o e
    exact ⟨o', hk _ _ (fun q => by rw [q, D.Lr] at e; cases e) e'⟩
end
section
variable {c : GC} {A : Around} {env : Env} {r : Rec} {g g₀ : FB} {own pre : Led} {L : Addr} {loc : Loc} {h : Heap} {elt target iter : Expr} {ifs : List Expr} {scope : Scope} {pos : Pos} {cl : List (Str × Addr)} {it : Value} {X : Nat → Led → Heap → Prop} {n : Nat} {item : Nat → Dt}
noncomputable abbrev tests (ifs : List Expr) (env : Env) : Sem Bool := forIn ifs true fun c r => if r = true then do let ok ← isTrue c env (eval c env); pure (ForInStep.yield ok) else pure (ForInStep.yield r)
theorem Wp_tests0 {Q : Bool → Heap → Prop} {E : Value → Heap → Prop} (x : Q true h) : Wp c A (tests [] env) Q E h := Wp_pure x
theorem Wp_tests1 {t : Expr} {Q : Bool → Heap → Prop} {E : Value → Heap → Prop} (x : Wp c A (isTrue t env (eval t env)) Q E h) : Wp c A (tests [t] env) Q E h :=
  ⟨fun s hs hr => wpAny_tests_one (x.run s hs hr)⟩
theorem St.perm {own' : Led} (D : St c r g own L loc h) (p : own'.Perm own) : St c r g own' L loc h := D.sub (fun x hx => p.mem_iff.mp hx) ((p.map _).nodup_iff.mpr D.nd)
theorem loopG {code : Code} {p : Pos} {cenv : Env} {REST : Value → Sem Fin} {RS : Result → Shared → Prop} {F : Heap → Prop} {B : (Heap → Prop) → Value → Heap → Prop} (hq : code.quiet = true)
    (hd : ∀ (Q : Fin → Shared → Prop) (E : Value → Shared → Prop) s, wpAny (Mo c) A ((standAt p >>= fun _ => pyNext it >>= fun o => match o with | none => pure (.done .next) | some v => letOwnedTupleGo target it v >>= fun _ => REST v).onRaise fun x => do noteFrame x cenv; theTreesLotGoes x) Q E s → wpAny (Mo c) (A.under code) ((Mo c).den code) Q E s)
    (J : Nat → Heap → Prop) (turn : ∀ n h, J n h → ∀ N : Heap → Prop, (∀ m h₆, m < n → J m h₆ → N h₆) →
      Wp c A (pyNext it) (fun o h₁ => o = none ∧ F h₁) NoE h ∨ Wp c A (pyNext it) (fun o h₁ => ∃ v, o = some v ∧ Wp c A (letOwnedTupleGo target it v) (fun _ h₂ => B N v h₂) NoE h₁) NoE h)
    (hF : ∀ s : Shared, F s.heap → Rest c s → RS (.ok .next) s)
    (body : ∀ N v (s : Shared) (Q : Fin → Shared → Prop) (E : Value → Shared → Prop), B N v s.heap → Rest c s → (∀ s', N s'.heap → Rest c s' → Q (.again code) s') → wpAny (Mo c) A (REST v) Q E s)
    (n : Nat) {s : Shared} (j : J n s.heap) (hr : Rest c s) : codeAny (Mo c) A code RS s := by
  refine codeAny_loop hq (fun n s => J n s.heap ∧ Rest c s) (fun n s z => hd _ _ _ (wpAny_noted (wpAny_bind (wpAny_standAt (wpAny_bind ?_))))) n ⟨j, hr⟩
  have no : ∀ {P : Value → Shared → Prop} (e : Value) (s' : Shared), (NoE e s'.heap ∧ Rest c s') → P e s' := fun _ _ y => y.1.elim
  rcases turn n s.heap z.1 (fun h => ∃ m, m < n ∧ J m h) (fun m h₆ hm j => ⟨m, hm, j⟩) with y | y
  · refine wpAny_mono (y.run s rfl z.2) (fun o s₁ y => ?_) no
    rw [y.1.1]
    exact wpAny_pure (hF s₁ y.1.2 y.2)
  · refine wpAny_mono (y.run s rfl z.2) (fun o s₁ y => y.1.elim fun v w => ?_) no
    rw [w.1]
    exact wpAny_bind (wpAny_mono (w.2.run s₁ rfl y.2) (fun _ s₂ y => body _ v s₂ _ _ y.1 y.2 fun s' z r => z.elim fun m w => ⟨rfl, m, w.1, w.2, r⟩) no)
theorem Wp.runN {α : Type} {t : Sem α} {Q : α → Heap → Prop} {Z : α → Shared → Prop} {E' : Value → Shared → Prop} {s : Shared} (w : Wp c A t Q NoE s.heap) (hr : Rest c s) (k : ∀ a s', Q a s'.heap → Rest c s' → Z a s') : wpAny (Mo c) A t Z E' s :=
  wpAny_mono (w.run s rfl hr) (fun a s' y => k a s' y.1 y.2) fun _ _ y => y.1.elim
theorem comp_loop {acc : Value} {cenv : Env} {RS : Result → Shared → Prop} {F : Heap → Prop} (J : Nat → Heap → Prop)
    (turn : ∀ n h, J n h → ∀ N : Heap → Prop, (∀ m h₆, m < n → J m h₆ → N h₆) →
      Wp c A (pyNext it) (fun o h₁ => o = none ∧ F h₁) NoE h ∨
      Wp c A (pyNext it) (fun o h₁ => ∃ v, o = some v ∧ Wp c A (letOwnedTupleGo target it v) (fun _ h₂ => Wp c A (assign target cenv v) (fun _ h₃ => Wp c A (tests ifs cenv) (fun b h₄ =>
          if b then Wp c A (eval elt cenv) (fun w h₅ => Wp c A (call (.builtin "list.append") [acc, w]) (fun _ h₆ => N h₆) NoE h₅) NoE h₄
          else N h₄) NoE h₃) NoE h₂) NoE h₁) NoE h)
    (hF : ∀ s : Shared, F s.heap → Rest c s → RS (.ok .next) s)
    (n : Nat) {s : Shared} (j : J n s.heap) (hr : Rest c s) : codeAny (Mo c) A (.compLoop (.ListComp elt [⟨target, iter, ifs, 0⟩] scope pos) 0 it acc cenv) RS s := by
  refine loopG (p := iter.pos) (cenv := cenv) (REST := fun v => do
    assign target cenv v
    let mut ok := true
    for c in ifs do
      if ok then ok ← isTrue c cenv (eval c cenv)
    if ok then
      (do let _ ← call (.builtin "list.append") [acc, ← eval elt cenv])
    again (.compLoop (.ListComp elt [⟨target, iter, ifs, 0⟩] scope pos) 0 it acc cenv)) rfl (fun Q E s h => ?_) J turn hF (fun N v s Q E b r k => ?_) n j hr
  · show wpAny _ A ((compTurn (.ListComp elt [⟨target, iter, ifs, 0⟩] scope pos) 0 it acc cenv).onRaise (fun x => do noteFrame x cenv; theTreesLotGoes x)) _ _ s
    rw [compTurn_list]
    exact h
  · refine wpAny_bind (b.runN r fun _ s₃ y r => wpAny_bind (y.runN r fun b s₄ y r => ?_))
    cases b with
    | true => exact wpAny_bind (wpAny_bind (y.runN r fun w s₅ y r => wpAny_bind (y.runN r fun _ s₆ y r => wpAny_pure (wpAny_pure (k s₆ y r)))))
    | false => exact wpAny_pure (k s₄ y r)
theorem newList_run {s : Shared} {E : Value → Heap → Prop} {Z : Value → Shared → Prop} (D : St c r g own L loc s.heap) (hr : Rest c s)
    (k : ∀ acc s₁ g₁, St c r g₁ ((acc, .lst []) :: own) L loc s₁.heap → r.h.get? acc = none → Sub g g₁ → (∀ b o, s.heap.get? b = some o → s₁.heap.get? b = some o) → Rest c s₁ → Z (.ref acc) s₁) :
    wpAny (Mo c) A (newList []) Z (fun e s' => E e s'.heap ∧ Rest c s') s := by
  refine ((ev_newList (c := c) (A := A) (g := g) (h := s.heap) (ds := []) .nil (by decide) g s.heap D.gr).go g s.heap D.gr (fun va h₁ => ∀ s₁ : Shared, s₁.heap = h₁ → Rest c s₁ → Z va s₁) E fun va g₁ h₁ G₁ z s₁ e r₁ => ?_).wpAny_of rfl hr fun va s₁ y r₁ => y s₁ rfl r₁
  obtain ⟨acc, rfl, hna, gna, vs, nn, eo, kv⟩ := z
  subst e
  exact k acc s₁ g₁ (D.adopt G₁ hna gna eo ⟨vs, nn, rfl, kv⟩) (D.none_of hna) G₁.sub G₁.kp r₁
noncomputable def Intos (c : GC) (A : Around) (env : Env) (r : Rec) (L : Addr) (loc : Loc) (scope : Scope) (cl : List (Str × Addr)) (xs : Addr → Led) (cls : Addr → List (Str × Addr)) : Prop :=
  ∀ (g₁ : FB) (own₁ : Led) (s : Shared) (Q : Env → Shared → Prop) (E : Value → Shared → Prop), St c r g₁ own₁ L loc s.heap →
    (∀ h₂ C m K, Kn m g₁ loc → (∀ b o, s.heap.get? b = some o → h₂.get? b = some o) → St c r g₁ (xs K ++ ((L, .fm m) :: own₁)) C [] h₂ → Q (newEnv scope C env.globals (cls K) env.qual none .none (some env) builtinsNs) { s with heap := h₂ }) →
    wpAny (Mo c) A (newFunctionEnv scope env.globals cl [] env.qual none .none (some env)) Q E s
theorem intosN (hcell : ∀ x ∈ scope.names, x.2 ≠ .cell) (hk : scope.kind = .function) : Intos c A env r L loc scope cl (fun _ => []) (fun _ => cl) := fun g₁ own₁ s Q E D k =>
  wpAny_newFunctionEnv hcell (by intro y hy; simp at hy) (fun h₂ hns hsb => by
    have up : ∀ b o, s.heap.get? b = some o → h₂.get? b = some o := fun b o e => hsb.extBut b o (Nat.ne_of_lt (Heap.lt_size e)) (Heap.get?_push_of_some _ e)
    obtain ⟨m, kn, D₂⟩ := D.into up (Heap.get?_push_self_none _) hns
    exact k h₂ _ m 0 kn up D₂) hk
end
section
variable {c : GC} {A : Around} {env : Env} {r : Rec} {g g₀ : FB} {own pre : Led} {L : Addr} {loc : Loc} {h : Heap} {elt target iter : Expr} {ifs : List Expr} {scope : Scope} {pos : Pos} {cl : List (Str × Addr)} {n : Nat} {item : Nat → Dt} {E : Value → Heap → Prop} {pos' : Pos}
noncomputable abbrev CTurn (c : GC) (A : Around) (env : Env) (r : Rec) (g : FB) (L : Addr) (loc : Loc) (elt target : Expr) (ifs : List Expr) (scope : Scope) (cls : Addr → List (Str × Addr)) (n : Nat) (item : Nat → Dt) (J : Addr → Nat → FB → Led → List Dt → Prop) : Prop :=
  ∀ acc C K m i g' g₂ own₁ ds h v pre (Zt : Value → Heap → Prop) (Zf : Heap → Prop), r.h.get? acc = none → i < n → J K i g' own₁ ds → Kn m g₂ loc → Sub g g' → Sub g' g₂ → St c r g₂ (pre ++ ((acc, .lst ds) :: (L, .fm m) :: own₁)) C [] h → Den g₂ v (item i) →
    (∀ g₃ own₃ d loc₃ w h₇, Den g₃ w d → J K (i + 1) g₃ own₃ (ds ++ [d]) → Sub g₂ g₃ → St c r g₃ (pre ++ ((acc, .lst ds) :: (L, .fm m) :: own₃)) C loc₃ h₇ → Zt w h₇) →
    (∀ g₃ own₃ loc₃ h₆, J K (i + 1) g₃ own₃ ds → Sub g₂ g₃ → St c r g₃ (pre ++ ((acc, .lst ds) :: (L, .fm m) :: own₃)) C loc₃ h₆ → Zf h₆) →
    Wp c A (assign target (compEnvC scope (cls K) C env) v) (fun _ h₅ => Wp c A (tests ifs (compEnvC scope (cls K) C env)) (fun b h₆ => if b then Wp c A (eval elt (compEnvC scope (cls K) C env)) Zt NoE h₆ else Zf h₆) NoE h₅) NoE h
noncomputable abbrev Src (c : GC) (A : Around) (env : Env) (target iter : Expr) (r : Rec) (g : FB) (own : Led) (L : Addr) (loc : Loc) (h : Heap) (n : Nat) (item : Nat → Dt) (E : Value → Heap → Prop) : Prop :=
  ∀ Q : Value → Heap → Prop, Got c A target r g own L loc n item Q → Wp c A (eval iter env) (fun v h₁ => Wp c A (pyIter v) Q E h₁) E h
theorem Src.run {s : Shared} {Z : Value → Shared → Prop} (src : Src c A env target iter r g own L loc h n item E) (hs : s.heap = h) (hr : Rest c s)
    (k : ∀ it s₂ g' pre X g₀, Iter c A target it g₀ X n item → X 0 pre s₂.heap → St c r g' (pre ++ own) L loc s₂.heap → Sub g g' → Sub g₀ g' → (∀ pre i h, X i pre h → ∀ p ∈ pre, r.h.get? p.1 = none) → Rest c s₂ → Z it s₂) :
    wpAny (Mo c) A (eval iter env) (fun v s₁ => wpAny (Mo c) A (pyIter v) Z (fun e s' => E e s'.heap ∧ Rest c s') s₁) (fun e s' => E e s'.heap ∧ Rest c s') s :=
  (src (fun it h₂ => ∀ s₂ : Shared, s₂.heap = h₂ → Rest c s₂ → Z it s₂) fun it g' h' pre X g₀ I x D' sg s₀ hn s₂ e r₂ => by subst e; exact k it s₂ g' pre X g₀ I x D' sg s₀ hn r₂).wpAny_of hs hr fun v s₁ y r₁ => y.wpAny_of rfl r₁ fun it s₂ w r₂ => w s₂ rfl r₂
variable {xs : Addr → Led} {cls : Addr → List (Str × Addr)}
theorem comp_any (D : St c r g own L loc h) (src : Src c A env target iter r g own L loc h n item E)
    (hclos : closureFor scope env = pure cl) (hin : Intos c A env r L loc scope cl xs cls) (hk : scope.kind = .function) (hnames : ∀ x ∈ scope.names, x.2 = .local → scope.names.lookup x.1 = some .local) (hs : ∀ x, foldedSetIterable iter env x = pure x)
    (J : Addr → Nat → FB → Led → List Dt → Prop) (j0 : ∀ K, J K 0 g (xs K ++ own) []) (hsz : ∀ K i g own ds, i < n → J K i g own ds → ds.length < sizeLine)
    (turn : CTurn c A env r g L loc elt target ifs scope cls n item J) {use : Option (Value → Sem Unit)} {Q : Value → Heap → Prop}
    (fin : ∀ acc C K m ds g' g₂ own' (s : Shared), r.h.get? acc = none → J K n g' own' ds → Kn m g₂ loc → Sub g g' → Sub g' g₂ → St c r g₂ ((acc, .lst ds) :: (L, .fm m) :: own') C [] s.heap → Rest c s →
      compPost (Mo c) A (fun e s' => E e s'.heap ∧ Rest c s') use (fun a s' => Q a s'.heap ∧ Rest c s') (.ref acc) C (.ok .next) s) :
    Wp c A (comprehension (.ListComp elt [⟨target, iter, ifs, 0⟩] scope pos) scope env pos' (newList []) false (eval iter env) use) Q E h := by
  refine ⟨fun s hs' hr => wpAny_comprehension_free (use := use) rfl hs hclos hk hnames (src.run hs' hr fun it s₂ g₂ pre X g₀ I x₀ D₂ sg s₀ hn r₂ => newList_run D₂ r₂ fun acc s₃ g₃ D₃ hna sg₃ up₃ r₃ => hin g₃ _ s₃ _ _ D₃ fun h₄ C m K kn up₄ D₄ => ?_)⟩
  have x₄ : X 0 pre h₄ := I.fr x₀ (fun p _ o e => up₄ _ _ (up₃ _ _ e)) (fun a o e => D₂.gh _ _ (s₀ _ _ e)) (fun a o e => D₄.gh _ _ (sg₃ _ _ (s₀ _ _ e)))
  have D₅ : St c r g₃ (pre ++ ((acc, .lst []) :: (L, .fm m) :: (xs K ++ own))) C [] h₄ := D₄.perm (by
    refine List.Perm.trans ?_ (List.perm_middle (l₁ := xs K)).symm
    refine List.Perm.trans (List.perm_middle (l₁ := pre)) ?_
    refine List.Perm.trans (.cons _ (List.perm_middle (l₁ := pre))) ?_
    refine List.Perm.trans (.swap _ _ _) (.cons _ ?_)
    refine List.Perm.trans (.cons _ (List.perm_append_comm_assoc pre (xs K) own)) ?_
    exact (List.perm_middle (l₁ := xs K)).symm)
  have loop : ∀ s₅ : Shared, s₅.heap = h₄ → Rest c s₅ → codeAny (Mo c) A (.compLoop (.ListComp elt [⟨target, iter, ifs, 0⟩] scope pos) 0 it (.ref acc) (compEnvC scope (cls K) C env)) (compPost (Mo c) A (fun e s' => E e s'.heap ∧ Rest c s') use (fun a s' => Q a s'.heap ∧ Rest c s') (.ref acc) C) s₅ := by
    intro s₅ e r₅
    refine comp_loop (F := fun h => ∀ s : Shared, s.heap = h → Rest c s → compPost (Mo c) A (fun e s' => E e s'.heap ∧ Rest c s') use (fun a s' => Q a s'.heap ∧ Rest c s') (.ref acc) C (.ok .next) s) (fun k h' => ∀ P : Prop, (∀ i pre' g' g'' own' ds loc', k + i = n → X i pre' h' → J K i g' own' ds → Sub g g' → Sub g' g'' → Sub g₃ g'' → St c r g'' (pre' ++ ((acc, .lst ds) :: (L, .fm m) :: own')) C loc' h' → P) → P) ?_ (fun s f r => f s rfl r) n
      (fun P kP => kP 0 pre g g₃ _ [] [] (Nat.add_zero n) (e ▸ x₄) (j0 K) .rfl (sg.trans sg₃) .rfl (e ▸ D₅)) r₅
    refine fun k h' jj N nx => jj _ fun i pre' g' g'' own' ds loc' hk' x' j' s' s'' s₁ D' => ?_
    have D' := D'.weak (loc' := []) (fun _ _ q => nomatch q)
    have s₀' := (s₀.trans sg₃).trans s₁
    by_cases hi : i < n
    · refine .inr (I.step hi x' D' s₀' _ _ fun v pre₂ g₄ h₄ D₄ s₄ x₄ dv => ?_)
      have nx' : ∀ g₅ own₅ ds₅ loc₅ h₅, J K (i + 1) g₅ own₅ ds₅ → Sub g₄ g₅ → St c r g₅ (pre₂ ++ ((acc, .lst ds₅) :: (L, .fm m) :: own₅)) C loc₅ h₅ → N h₅ := fun g₅ own₅ ds₅ loc₅ h₅ j₅ s₅ D₅ =>
        nx (k - 1) h₅ (by (first | lia | omega)) fun P kP => kP (i + 1) pre₂ g₅ g₅ own₅ ds₅ loc₅ (by (first | lia | omega)) (I.keep x₄ D₄ D₅ (s₀'.trans s₄) ((s₀'.trans s₄).trans s₅)) j₅ (((s'.trans s'').trans s₄).trans s₅) .rfl ((s₁.trans s₄).trans s₅) D₅
      exact turn acc C K m i g' g₄ own' ds h₄ v pre₂ _ N hna hi j' (kn.mono (s₁.trans s₄)) s' (s''.trans s₄) D₄ dv (fun g₅ own₅ d loc₅ w h₅ dw j₅ s₅ D₅ =>
        Wp_append (D₅.perm (List.perm_middle (l₁ := pre₂)).symm) dw .head (hsz K i g' own' ds hi j') fun h₆ D₆ => nx' g₅ own₅ _ loc₅ h₆ j₅ s₅ (D₆.perm (List.perm_middle (l₁ := pre₂)))) fun g₅ own₅ loc₅ h₅ j₅ s₅ D₅ => nx' g₅ own₅ ds loc₅ h₅ j₅ s₅ D₅
    · have : i = n := by (first | lia | omega)
      subst this
      exact .inl (I.done x' D' s₀' (hn _ _ _ x') _ _ fun h₅ D₅ s e r => fin acc C K m ds g' g'' own' s hna j' (kn.mono s₁) s' s'' (e ▸ D₅) r)
  exact codeAny_compStart_list (loop _ rfl r₃) (wpAny_mono ((I.self x₄ (fun it' h' => it' = it ∧ h' = h₄) NoE ⟨rfl, rfl⟩).run { s₃ with heap := h₄ } rfl r₃) (fun it' s' y => by rw [y.1.1]; exact loop s' y.1.2 y.2) fun _ _ y => y.1.elim)
theorem St.forget {C : Addr} {h' : Heap} (D : St c r g own L loc h) (gC : g C = none) (oC : ∀ p ∈ own, p.1 ≠ C) (LC : L ≠ C) (rC : r.h.get? C = none) (hk : ∀ b o, b ≠ C → h.get? b = some o → h'.get? b = some o) : St c r g own L loc h' := by
  refine ⟨⟨fun b o e => hk _ _ (fun q => by rw [q, gC] at e; cases e) (D.gh _ _ e), fun p hp => ?_, D.nd, D.g0, D.fr, fun b o hb e => hk _ _ (fun q => by rw [q, rC] at e; cases e) (D.kp b o hb e), D.os, fun b o e => ?_⟩, D.cb, D.ns.at' .rfl (fun o e => hk _ _ LC e), D.gL, D.oL, D.Lr⟩
  · obtain ⟨⟨o, e, i⟩, n⟩ := D.ow p hp
    exact ⟨⟨o, hk _ _ (oC p hp) e, i⟩, n⟩
  · obtain ⟨o', e'⟩ := D.al b o e
    exact ⟨o', hk _ _ (fun q => by rw [q, rC] at e; cases e) e'⟩
theorem Wp_compE {Q : Value → Heap → Prop} (D : St c r g own L loc h) (src : Src c A env target iter r g own L loc h n item E)
    (hclos : closureFor scope env = pure cl) (hcell : ∀ x ∈ scope.names, x.2 ≠ .cell) (hk : scope.kind = .function) (hnames : ∀ x ∈ scope.names, x.2 = .local → scope.names.lookup x.1 = some .local) (hs : ∀ x, foldedSetIterable iter env x = pure x)
    (J : Nat → FB → Led → List Dt → Prop) (j0 : J 0 g own []) (hsz : ∀ i g own ds, i < n → J i g own ds → ds.length < sizeLine)
    (turn : CTurn c A env r g L loc elt target ifs scope (fun _ => cl) n item fun _ => J)
    (fin : ∀ acc ds g' g₂ own' h', r.h.get? acc = none → J n g' own' ds → Sub g g' → Sub g' g₂ → St c r g₂ ((acc, .lst ds) :: own') L loc h' → Q (.ref acc) h') :
    Wp c A (eval (.ListComp elt [⟨target, iter, ifs, 0⟩] scope pos) env) Q E h := by
  refine Wp_eq (eval_ListComp ..) (comp_any D src hclos (intosN hcell hk) hk hnames hs (fun _ => J) (fun _ => j0) (fun _ => hsz) turn (use := none) fun acc C K m ds g' g₂ own' s hna j kn s₁ s₂ D₂ hr => ?_)
  obtain ⟨m', n', _⟩ := D₂.ns
  exact ⟨m', n', fun h₃ hsb => ⟨fin acc ds g' g₂ own' h₃ hna j s₁ s₂ ((D₂.perm (.swap _ _ _)).outof D.Lr kn fun b o hb e => hsb.extBut b o hb e), hr⟩⟩
theorem sAssignCompG {y : Str} {py spos : Pos} {rest : List Stmt} {Q : Flow → Heap → Prop} (D : St c r g own L loc h) (F : Fn env L) (src : Src c A env target iter r g own L loc h n item E)
    (hsw : swapsWith (.ListComp elt [⟨target, iter, ifs, 0⟩] scope pos) (some (.Name y py)) spos.line env = pure true) (hy : env.kindOf y = some .local)
    (hclos : closureFor scope env = pure cl) (hin : Intos c A env r L loc scope cl xs cls) (hk : scope.kind = .function) (hnames : ∀ x ∈ scope.names, x.2 = .local → scope.names.lookup x.1 = some .local) (hs : ∀ x, foldedSetIterable iter env x = pure x)
    (J : Addr → Nat → FB → Led → List Dt → Prop) (j0 : ∀ K, J K 0 g (xs K ++ own) []) (hsz : ∀ K i g own ds, i < n → J K i g own ds → ds.length < sizeLine)
    (turn : CTurn c A env r g L loc elt target ifs scope cls n item J)
    (fin : ∀ acc K ds g' g₂ own' h', r.h.get? acc = none → J K n g' own' ds → Sub g g' → Sub g' g₂ → St c r g₂ ((acc, .lst ds) :: own') L ((y, .ref acc) :: loc) h' → Wp c A (execs rest env) Q E h') :
    Wp c A (execs (.Assign [.Name y py] (.ListComp elt [⟨target, iter, ifs, 0⟩] scope pos) spos :: rest) env) Q E h := by
  refine sCons (Wp_eq (exec_Assign_Name_used _ _ _ _ hsw) ?_)
  refine Wp_bind ⟨fun s hs' hr => wpAny_standAt ⟨?_, hr⟩⟩
  subst hs'
  refine Wp_bind ?_
  refine Wp_eq (show _ = (do let _ ← comprehension (.ListComp elt [⟨target, iter, ifs, 0⟩] scope pos) scope env (firstIterPos [⟨target, iter, ifs, 0⟩] pos) (newList []) false (eval iter env) (some (assign (.Name y py) env)); pure ()) from rfl) (Wp_bind ?_)
  refine Wp.imp (Q := fun _ h' => Wp c A (execs rest env) Q E h') (comp_any D src hclos hin hk hnames hs J j0 hsz turn (use := some (assign (.Name y py) env)) fun acc C K m ds g' g₂ own' s hna j kn s₁ s₂ D₂ hr => ?_) fun _ h' w => Wp_pure (Wp_pure w)
  obtain ⟨m', n', _⟩ := D₂.ns
  have LC : L ≠ C := D₂.oL _ (.tail _ (.head _))
  have D₃ : St c r g₂ ((acc, .lst ds) :: own') L loc s.heap := (D₂.perm (.swap _ _ _)).outof D.Lr kn fun b o hb e => e
  obtain ⟨ms, ns, kns⟩ := D₃.ns
  have hL := F.L
  subst hL
  refine wpAny_assign_Name (wpAny_storeName_local hy ns (fun h₃ hn₃ hs₃ => ?_) (by rw [F.k]; rfl))
  refine ⟨m', n'.sameBut hs₃ (Ne.symm LC), fun h₄ hs₄ => ⟨fin acc K ds g' g₂ own' h₄ hna j s₁ s₂ ?_, hr⟩⟩
  have nx : NsD h₃ env.locals g₂ ((y, .ref acc) :: loc) := by
    refine ⟨_, hn₃, fun z d hz => ?_⟩
    rw [List.lookup_cons] at hz
    by_cases q : z = y
    · subst q; simp at hz; subst hz; exact ⟨_, if_pos rfl, .ref acc⟩
    · have q' : (z == y) = false := beq_eq_false_iff_ne.mpr q
      rw [q'] at hz
      obtain ⟨w, e1, e2⟩ := kns z d hz
      exact ⟨w, (if_neg q).trans e1, e2⟩
  exact (D₃.store nx hs₃).forget D₂.gL (fun p hp => D₂.oL p (by
    rcases List.mem_cons.mp hp with rfl | hp
    · exact .head _
    · exact .tail _ (.tail _ hp))) LC D₂.Lr fun b o hb e => hs₄.extBut b o hb e
theorem sAssignComp {y : Str} {py spos : Pos} {rest : List Stmt} {Q : Flow → Heap → Prop} (D : St c r g own L loc h) (F : Fn env L) (src : Src c A env target iter r g own L loc h n item E)
    (hsw : swapsWith (.ListComp elt [⟨target, iter, ifs, 0⟩] scope pos) (some (.Name y py)) spos.line env = pure true) (hy : env.kindOf y = some .local)
    (hclos : closureFor scope env = pure cl) (hcell : ∀ x ∈ scope.names, x.2 ≠ .cell) (hk : scope.kind = .function) (hnames : ∀ x ∈ scope.names, x.2 = .local → scope.names.lookup x.1 = some .local) (hs : ∀ x, foldedSetIterable iter env x = pure x)
    (J : Nat → FB → Led → List Dt → Prop) (j0 : J 0 g own []) (hsz : ∀ i g own ds, i < n → J i g own ds → ds.length < sizeLine)
    (turn : CTurn c A env r g L loc elt target ifs scope (fun _ => cl) n item fun _ => J)
    (fin : ∀ acc ds g' g₂ own' h', r.h.get? acc = none → J n g' own' ds → Sub g g' → Sub g' g₂ → St c r g₂ ((acc, .lst ds) :: own') L ((y, .ref acc) :: loc) h' → Wp c A (execs rest env) Q E h') :
    Wp c A (execs (.Assign [.Name y py] (.ListComp elt [⟨target, iter, ifs, 0⟩] scope pos) spos :: rest) env) Q E h :=
  sAssignCompG D F src hsw hy hclos (intosN hcell hk) hk hnames hs (fun _ => J) (fun _ => j0) (fun _ => hsz) turn fun acc _ => fin acc
end
section
variable {c : GC} {A : Around} {env : Env} {r : Rec} {g g₀ : FB} {own pre : Led} {L : Addr} {loc : Loc} {h : Heap} {elt target iter : Expr} {ifs : List Expr} {scope : Scope} {pos : Pos} {cl : List (Str × Addr)} {n : Nat} {item : Nat → Dt} {E : Value → Heap → Prop} {x y : Str} {px py : Pos} {v : Value} {d e : Dt}
theorem Wp_asgL {Q : Unit → Heap → Prop} (D : St c r g own L loc h) (dv : Den g v d) (F : Fn env L) (hx : env.kindOf x = some .local) (k : ∀ h', St c r g own L ((x, d) :: loc) h' → Q () h') : Wp c A (assign (.Name x px) env v) Q E h :=
  Wp_asgName (Wp_storeL D dv F hx k)
theorem Dens.two_inv {vs : List Value} (z : Dens g vs [d, e]) : ∃ v w, vs = [v, w] ∧ Den g v d ∧ Den g w e := by
  obtain _ | ⟨p, ps⟩ := z
  obtain ⟨w, rfl, q⟩ := ps.one_inv
  exact ⟨_, _, rfl, p, q⟩
theorem Dens.three_inv {vs : List Value} {f : Dt} (z : Dens g vs [d, e, f]) : ∃ v w u, vs = [v, w, u] ∧ Den g v d ∧ Den g w e ∧ Den g u f := by
  obtain _ | ⟨p, ps⟩ := z
  obtain ⟨w, u, rfl, q, q'⟩ := ps.two_inv
  exact ⟨_, _, _, rfl, p, q, q'⟩
theorem Wp_asgTup2 {Q : Unit → Heap → Prop} {kk : Nat} {tp : Pos} (D : St c r g own L loc h) (hh : A.handled = none) (dv : Den g v (.tup [d, e])) (F : Fn env L) (hx : env.kindOf x = some .local) (hy : env.kindOf y = some .local)
    (k : ∀ h', St c r g own L ((y, e) :: (x, d) :: loc) h' → Q () h') : Wp c A (assign (.Tuple [.Name x px, .Name y py] kk tp) env v) Q E h := ⟨fun s hs hr => by
  subst hs
  obtain ⟨a, vs, m, rfl, eo, kv⟩ := dv.tup_inv
  obtain ⟨v₁, v₂, rfl, d₁, d₂⟩ := kv.two_inv
  refine wpAny_assign_Tuple hh (⟨_, D.gh _ _ eo, rfl, m, rfl⟩ : s.heap.IsTuple a #[v₁, v₂]) rfl rfl fun h₁ he₁ => ?_
  have D₁ : St c r g own L loc h₁ := D.grow (.heap D.gh fun b o e => he₁ b o (Nat.ne_of_lt (Heap.lt_size e)) e)
  have W : Wp c A (assign (.Name x px) env v₁) (fun _ h₂ => Wp c A (assignInOrder [assign (.Name y py) env] [v₂]) Q E h₂) E h₁ := Wp_asgL D₁ d₁ F hx fun h₂ D₂ => ⟨fun s₂ hs₂ hr₂ => by
    have V : Wp c A (assign (.Name y py) env v₂) (fun _ h₃ => Wp c A (assignInOrder [] []) Q E h₃) E h₂ := Wp_asgL D₂ d₂ F hy fun h₃ D₃ => ⟨fun s₃ hs₃ hr₃ => assignInOrder_nil ⟨hs₃ ▸ k _ D₃, hr₃⟩⟩
    exact assignInOrder_cons (wpAny_mono (V.run s₂ hs₂ hr₂) (fun _ s₃ ⟨y, r₃⟩ => y.run s₃ rfl r₃) fun _ _ e => e)⟩
  exact assignInOrder_cons (wpAny_mono (W.run { s with heap := h₁ } rfl hr) (fun _ s₂ ⟨y, r₂⟩ => y.run s₂ rfl r₂) fun _ _ e => e)⟩
theorem Fn.comp (F : Fn env L) (hk : scope.kind = .function) (C : Addr) : Fn (compEnvC scope cl C env) C := ⟨hk, rfl, F.g, F.b⟩
noncomputable abbrev JP (own : Led) (p : Nat → Bool) (f : Nat → Dt) : Nat → FB → Led → List Dt → Prop := fun i _ own' ds => own' = own ∧ ds = ((List.range i).filter p).map f
theorem range_succ_filter (p : Nat → Bool) (f : Nat → Dt) (i : Nat) : ((List.range (i + 1)).filter p).map f = ((List.range i).filter p).map f ++ (if p i then [f i] else []) := by
  rw [List.range_succ, List.filter_append, List.map_append]
  cases hp : p i <;> simp [hp]
theorem cturn {p : Nat → Bool} {f : Nat → Dt} {bnd : Nat → Loc}
    (asg : ∀ i g₂ own₂ C h₂ v (Q : Unit → Heap → Prop), i < n → St c r g₂ own₂ C [] h₂ → Den g₂ v (item i) → (∀ loc₃ h₃, loc₃ = bnd i → St c r g₂ own₂ C loc₃ h₃ → Q () h₃) → Wp c A (assign target (compEnvC scope cl C env) v) Q NoE h₂)
    (test : ∀ i g₂ own₂ C h₂ (Q : Bool → Heap → Prop), i < n → St c r g₂ own₂ C (bnd i) h₂ → (∀ p ∈ own, p ∈ own₂) → Sub g g₂ → (∀ g₃ h₃, St c r g₃ own₂ C (bnd i) h₃ → Sub g₂ g₃ → Q (p i) h₃) → Wp c A (tests ifs (compEnvC scope cl C env)) Q NoE h₂)
    (el : ∀ i g₂ own₂ C h₂, i < n → p i = true → St c r g₂ own₂ C (bnd i) h₂ → (∀ p ∈ own, p ∈ own₂) → Sub g g₂ → EvD c A (compEnvC scope cl C env) elt g₂ h₂ (f i)) : CTurn c A env r g L loc elt target ifs scope (fun _ => cl) n item (fun _ => JP own p f) := by
  intro acc C K m i g' g₂ own₁ ds h v pre Zt Zf hna hi j kn s₁ s₂ D₂ dv kt kf
  obtain ⟨rfl, rfl⟩ := j
  have hm : ∀ q ∈ own₁, q ∈ pre ++ ((acc, .lst (((List.range i).filter p).map f)) :: (L, .fm m) :: own₁) := fun q hq => List.mem_append_right _ (.tail _ (.tail _ hq))
  refine asg i g₂ _ C h v _ hi D₂ dv fun loc₃ h₃ hl D₃ => ?_
  subst hl
  refine test i g₂ _ C h₃ _ hi D₃ hm (s₁.trans s₂) fun g₃ h₄ D₄ s₃ => ?_
  have rs := range_succ_filter p f i
  cases hp : p i with
  | true =>
    rw [hp] at rs
    exact (el i g₃ _ C h₄ hi hp D₄ hm ((s₁.trans s₂).trans s₃)).wp D₄ fun w g₄ h₅ D₅ G₅ dw => kt g₄ own₁ (f i) _ w h₅ dw ⟨rfl, rs.symm⟩ (s₃.trans G₅.sub) D₅
  | false =>
    rw [hp] at rs
    exact kf g₃ own₁ _ h₄ ⟨rfl, (rs.trans (List.append_nil _)).symm⟩ s₃ D₄
theorem JP.size {p : Nat → Bool} {f : Nat → Dt} (hn : n ≤ sizeLine) : ∀ i g own' ds, i < n → JP own p f i g own' ds → ds.length < sizeLine := by
  rintro i g own' ds hi ⟨_, rfl⟩
  have := List.length_filter_le p (List.range i)
  rw [List.length_range] at this
  rw [List.length_map]; (first | lia | omega)
theorem JP.all {f : Nat → Dt} {i : Nat} : ((List.range i).filter fun _ => true).map f = (List.range i).map f := by rw [List.filter_eq_self.mpr (by simp)]
theorem cturnN {f : Nat → Dt} (F : Fn env L) (hk : scope.kind = .function) (hx : scope.names.lookup x = some .local)
    (el : ∀ i g₂ own₂ C h₂, i < n → St c r g₂ own₂ C [(x, item i)] h₂ → (∀ p ∈ own, p ∈ own₂) → Sub g g₂ → EvD c A (compEnvC scope cl C env) elt g₂ h₂ (f i)) : CTurn c A env r g L loc elt (.Name x px) [] scope (fun _ => cl) n item (fun _ => JP own (fun _ => true) f) :=
  cturn (bnd := fun i => [(x, item i)]) (fun i g₂ own₂ C h₂ v Q hi D dv k => Wp_asgL D dv (F.comp hk C) (lookup_relabel_local hx) fun h' D' => k _ h' rfl D')
    (fun i g₂ own₂ C h₂ Q hi D hm s k => Wp_tests0 (k g₂ h₂ D .rfl)) fun i g₂ own₂ C h₂ hi _ D hm s => el i g₂ own₂ C h₂ hi D hm s
theorem cturnN1 {p : Nat → Bool} {f : Nat → Dt} {t : Expr} (F : Fn env L) (hk : scope.kind = .function) (hx : scope.names.lookup x = some .local)
    (te : ∀ i g₂ own₂ C h₂, i < n → St c r g₂ own₂ C [(x, item i)] h₂ → (∀ p ∈ own, p ∈ own₂) → Sub g g₂ → EvB c A (compEnvC scope cl C env) t g₂ h₂ (p i))
    (el : ∀ i g₂ own₂ C h₂, i < n → p i = true → St c r g₂ own₂ C [(x, item i)] h₂ → (∀ p ∈ own, p ∈ own₂) → Sub g g₂ → EvD c A (compEnvC scope cl C env) elt g₂ h₂ (f i)) : CTurn c A env r g L loc elt (.Name x px) [t] scope (fun _ => cl) n item (fun _ => JP own p f) :=
  cturn (bnd := fun i => [(x, item i)]) (fun i g₂ own₂ C h₂ v Q hi D dv k => Wp_asgL D dv (F.comp hk C) (lookup_relabel_local hx) fun h' D' => k _ h' rfl D')
    (fun i g₂ own₂ C h₂ Q hi D hm s k => Wp_tests1 ((te i g₂ own₂ C h₂ hi D hm s).wp D fun b g₃ h₃ D₃ G₃ e => by subst e; exact k g₃ h₃ D₃ G₃.sub)) el
theorem cturnT {f : Nat → Dt} {d₁ d₂ : Nat → Dt} {kk : Nat} {tp : Pos} (F : Fn env L) (hh : A.handled = none) (hk : scope.kind = .function) (hx : scope.names.lookup x = some .local) (hy : scope.names.lookup y = some .local)
    (el : ∀ i g₂ own₂ C h₂, i < n → St c r g₂ own₂ C [(y, d₂ i), (x, d₁ i)] h₂ → (∀ p ∈ own, p ∈ own₂) → Sub g g₂ → EvD c A (compEnvC scope cl C env) elt g₂ h₂ (f i)) : CTurn c A env r g L loc elt (.Tuple [.Name x px, .Name y py] kk tp) [] scope (fun _ => cl) n (fun i => .tup [d₁ i, d₂ i]) (fun _ => JP own (fun _ => true) f) :=
  cturn (bnd := fun i => [(y, d₂ i), (x, d₁ i)]) (fun i g₂ own₂ C h₂ v Q hi D dv k => Wp_asgTup2 D hh dv (F.comp hk C) (lookup_relabel_local hx) (lookup_relabel_local hy) fun h' D' => k _ h' rfl D')
    (fun i g₂ own₂ C h₂ Q hi D hm s k => Wp_tests0 (k g₂ h₂ D .rfl)) fun i g₂ own₂ C h₂ hi _ D hm s => el i g₂ own₂ C h₂ hi D hm s
theorem srcList {ds : List Dt} (D : St c r g own L loc h) (hh : A.handled = none) (p : EvD c A env iter g h (.lst ds)) (ht : ∀ it v, letOwnedTupleGo target it v = pure ()) : Src c A env target iter r g own L loc h ds.length (fun i => ds.getD i .none) E :=
  fun Q k => p.wp D fun v g' h' D' G dv => itList D' hh dv ht fun it g₂ h₂ pre X g₀ I x D₂ s s₀ hn => k it g₂ h₂ pre X g₀ I x D₂ (G.sub.trans s) s₀ hn
theorem srcTup {ds : List Dt} (D : St c r g own L loc h) (hh : A.handled = none) (p : EvD c A env iter g h (.tup ds)) (ht : ∀ it v, letOwnedTupleGo target it v = pure ()) : Src c A env target iter r g own L loc h ds.length (fun i => ds.getD i .none) E :=
  fun Q k => p.wp D fun v g' h' D' G dv => itTup D' hh dv ht fun it g₂ h₂ pre X g₀ I x D₂ s s₀ hn => k it g₂ h₂ pre X g₀ I x D₂ (G.sub.trans s) s₀ hn
theorem srcStr {z : Str} (D : St c r g own L loc h) (hh : A.handled = none) (p : EvD c A env iter g h (.str z)) (ht : ∀ it v, letOwnedTupleGo target it v = pure ()) : Src c A env target iter r g own L loc h z.cps.size (sign z) E :=
  fun Q k => p.wp D fun v g' h' D' G dv => itStr D' hh dv ht fun it g₂ h₂ pre X g₀ I x D₂ s s₀ hn => k it g₂ h₂ pre X g₀ I x D₂ (G.sub.trans s) s₀ hn
theorem srcRange {a b st : Int} (D : St c r g own L loc h) (hh : A.handled = none) (p : Ev c A (eval iter env) g h fun g' _ v => RngAt g' v a b st) (hsm : Builtin.Range.small a b st = true) (hn : Builtin.Range.rangeSize a b st = (n : Int)) (ht : ∀ it v, letOwnedTupleGo target it v = pure ()) :
    Src c A env target iter r g own L loc h n (fun i => .int (a + i * st)) E :=
  fun Q k => p.wp D fun v g' h' D' G dv => itRange D' hh dv hsm hn ht fun it g₂ h₂ pre X g₀ I x D₂ s s₀ hn => k it g₂ h₂ pre X g₀ I x D₂ (G.sub.trans s) s₀ hn
theorem srcEnumL {ds : List Dt} {elts : List Expr} {kk : Nat} {tp p₁ p₂ : Pos} {e₁ : Expr} (D : St c r g own L loc h) (hh : A.handled = none) (hf : Ev c A (eval (.Name x p₁) env) g h fun _ _ v => v = .type "enumerate") (p : EvD c A env e₁ g h (.lst ds)) (hse : starEach [e₁] env = [(false, eval e₁ env)]) :
    Src c A env (.Tuple elts kk tp) (.Call (.Name x p₁) [e₁] [] p₂) r g own L loc h ds.length (fun i => .tup [.int i, ds.getD i .none]) E :=
  fun Q k => Wp_callT1 D hf p hse fun v g' h' D' s dv => Wp_enumL D' hh dv fun it g₂ h₂ pre X g₀ I x D₂ s₂ s₀ hn => k it g₂ h₂ pre X g₀ I x D₂ (s.trans s₂) s₀ hn
theorem srcEnumS {z : Str} {elts : List Expr} {kk : Nat} {tp p₁ p₂ : Pos} {e₁ : Expr} (D : St c r g own L loc h) (hh : A.handled = none) (hf : Ev c A (eval (.Name x p₁) env) g h fun _ _ v => v = .type "enumerate") (p : EvD c A env e₁ g h (.str z)) (hse : starEach [e₁] env = [(false, eval e₁ env)]) :
    Src c A env (.Tuple elts kk tp) (.Call (.Name x p₁) [e₁] [] p₂) r g own L loc h z.cps.size (fun i => .tup [.int i, sign z i]) E :=
  fun Q k => Wp_callT1 D hf p hse fun v g' h' D' s dv => Wp_enumS D' hh dv fun it g₂ h₂ pre X g₀ I x D₂ s₂ s₀ hn => k it g₂ h₂ pre X g₀ I x D₂ (s.trans s₂) s₀ hn
theorem srcRev {ds : List Dt} {p₁ p₂ : Pos} {e₁ : Expr} (D : St c r g own L loc h) (hh : A.handled = none) (hf : Ev c A (eval (.Name x p₁) env) g h fun _ _ v => v = .type "reversed") (p : EvD c A env e₁ g h (.lst ds)) (hse : starEach [e₁] env = [(false, eval e₁ env)]) (ht : ∀ it v, letOwnedTupleGo target it v = pure ()) :
    Src c A env target (.Call (.Name x p₁) [e₁] [] p₂) r g own L loc h ds.length (fun i => ds.getD (ds.length - 1 - i) .none) E :=
  fun Q k => Wp_callT1 D hf p hse fun v g' h' D' s dv => Wp_revL D' hh dv ht fun it g₂ h₂ pre X g₀ I x D₂ s₂ s₀ hn => k it g₂ h₂ pre X g₀ I x D₂ (s.trans s₂) s₀ hn
theorem sForS {Q : Flow → Heap → Prop} {rest body : List Stmt} (src : Src c A env target iter r g own L loc h n item E) (hs : ∀ x, foldedSetIterable iter env x = pure x)
    (J : Nat → FB → Led → Loc → Prop) (j0 : ∀ g', Sub g g' → J 0 g' own loc)
    (turn : ∀ i g' g₂ own loc h v pre (Qt : Flow → Heap → Prop), i < n → J i g' own loc → Sub g g' → Sub g' g₂ → St c r g₂ (pre ++ own) L loc h → Den g₂ v (item i) →
      (∀ g'' own' loc' h₆, J (i + 1) g'' own' loc' → Sub g₂ g'' → St c r g'' (pre ++ own') L loc' h₆ → Qt .next h₆) → (∀ v h₆, Q (.ret v) h₆ → Qt (.ret v) h₆) →
      Wp c A (assign target env v) (fun _ h₅ => Wp c A (execs body env) Qt NoE h₅) NoE h)
    (fin : ∀ g' own loc h, J n g' own loc → Sub g g' → St c r g' own L loc h → Wp c A (execs rest env) Q E h) : Wp c A (execs (.For target iter body [] pos :: rest) env) Q E h :=
  sFor (src _ fun it g₁ h₁ pre X g₀ I x D₁ s s₀ hn => forJ I x D₁ s₀ hn J (j0 g₁ s) (fun i g' g₂ own loc h v pre Qt hi j s₁ s₂ D₂ dv => turn i g' g₂ own loc h v pre Qt hi j (s.trans s₁) s₂ D₂ dv) fun g' own loc h j s₁ D₂ => fin g' own loc h j (s.trans s₁) D₂) hs
end
section
variable {c : GC} {A : Around} {env : Env} {g : FB} {h : Heap} {l r e : Expr} {pos p p' : Pos} {x : Str} {i j k : Int} {ds es : List Dt} {d : Dt} {y z : Str} {args : List Expr}
theorem ev_addL {a b : Addr} (X : LstAt g h a ds) (Y : LstAt g h b es) (hsz : ds.length + es.length ≤ sizeLine) : ∀ g₁ h₁, Gr g h g₁ h₁ → Ev c A (binaryOp .Add (.ref a) (.ref b)) g₁ h₁ fun g' h' v => ∃ a, v = .ref a ∧ h₁.get? a = none ∧ g' a = none ∧ LstAt g' h' a (ds ++ es) :=
  fun g₁ h₁ G₁ => .ofG fun g₂ s G₂ Q E q => by
    obtain ⟨vs, n, e1, k1⟩ := X.gr (G₁.trans G₂)
    obtain ⟨ws, m, e2, k2⟩ := Y.gr (G₁.trans G₂)
    have hn : s.heap.get? s.heap.objs.size = none := Heap.get?_push_self_none _
    refine PySem.P.add_list (n := n) (n2 := m) e1 e2 (q _ _ s.toks g₂ (.push G₂.gh) ⟨_, rfl, (Al.of G₂.kp).none hn, FB.none_of G₂.gh hn, vs ++ ws, 0, ?_, k1.append k2⟩) ?_
    · have := Heap.get?_push_size s.heap (o := { cls := .type "list", data := .seq (vs.toArray ++ ws.toArray) }) rfl
      simpa using this
    · simp [k1.length, k2.length]; exact hsz
theorem nAdd (P : EvL c A env l g h ds) (R : EvL c A env r g h es) (hsz : ds.length + es.length ≤ sizeLine) : EvN c A env (.BinOp l .Add r pos) g h (ds ++ es) :=
  ⟨fun g₁ h₁ G₁ => ⟨fun g₂ h₂ G₂ Q E q => Wp_BinOp (P.go g₂ h₂ (G₁.trans G₂) _ _ fun v g₃ h₃ G₃ ⟨a, ea, X⟩ => R.go g₃ h₃ ((G₁.trans G₂).trans G₃) _ _ fun w g₄ h₄ G₄ ⟨b, eb, Y⟩ => by
    subst ea eb
    exact (ev_addL (X.gr G₄) Y hsz g₄ h₄ G₄.here).go g₄ h₄ G₄.here Q E fun u g₅ h₅ G₅ ⟨a', e, hn, gn, Z⟩ => q u g₅ h₅ ((G₃.trans G₄).trans G₅) ⟨a', e, (Al.of ((G₂.trans G₃).trans G₄).kp).none hn, gn, Z⟩)⟩⟩
theorem eAddS (P : EvD c A env l g h (.str y)) (R : EvD c A env r g h (.str z)) (hsz : y.length + z.length ≤ sizeLine) : EvD c A env (.BinOp l .Add r pos) g h (.str (y ++ z)) :=
  Ev_BinOp P R fun v w _ _ _ p q => by
    obtain ⟨_, rfl⟩ := p.str_inv
    obtain ⟨_, rfl⟩ := q.str_inv
    exact .of fun _ s _ _ _ q => SB.add (fun t' k => q (.str (y ++ z) t') k (.str _ _)) hsz
theorem eCallT1 {T : String} {P : FB → Heap → Value → Prop} (hf : Ev c A (eval (.Name x p) env) g h fun _ _ v => v = .type T) (a : EvD c A env e g h d) (k : ∀ v g' h', Gr g h g' h' → Den g' v d → Ev c A (call (.type T) [v]) g' h' P) (hse : starEach [e] env = [(false, eval e env)]) :
    Ev c A (eval (.Call (.Name x p) [e] [] pos) env) g h P := by
  have hb : backTo pos (starEach [e] env) = [(false, eval e env)] := by rw [hse]; rfl
  exact eCallT hf (aCons a aNil hse) (fun vs g' h' G z => by obtain ⟨v, rfl, dv⟩ := z.one_inv; exact k v g' h' G dv) (by rw [hb]; rfl) ⟨_, _, hb⟩
theorem eCallB1 {T : String} {P : FB → Heap → Value → Prop} (hf : Ev c A (eval (.Name x p) env) g h fun _ _ v => v = .builtin T) (a : EvD c A env e g h d) (k : ∀ v g' h', Gr g h g' h' → Den g' v d → Ev c A (call (.builtin T) [v]) g' h' P) (hse : starEach [e] env = [(false, eval e env)]) :
    Ev c A (eval (.Call (.Name x p) [e] [] pos) env) g h P := by
  have hb : backTo pos (starEach [e] env) = [(false, eval e env)] := by rw [hse]; rfl
  exact eCallB hf (aCons a aNil hse) (fun vs g' h' G z => by obtain ⟨v, rfl, dv⟩ := z.one_inv; exact k v g' h' G dv) (by rw [hb]; rfl) (.inr ⟨_, _, hb⟩)
noncomputable abbrev iText (i : Int) : Str := Str.ofString (toString i)
theorem eStrI (hf : Ev c A (eval (.Name x p) env) g h fun _ _ v => v = .type "str") (a : EvD c A env e g h (.int i)) (hi : i.natAbs.log2 < 1920) (hse : starEach [e] env = [(false, eval e env)]) : EvD c A env (.Call (.Name x p) [e] [] pos) g h (.str (iText i)) :=
  eCallT1 hf a (fun v g' h' G q => by
    obtain ⟨t, rfl⟩ := q.int_inv
    exact .of fun _ s _ _ _ q => P.str_of_int hi (q _ (s.toks + 1) (.str _ _))) hse
theorem eIntB {b : Bool} (hf : Ev c A (eval (.Name x p) env) g h fun _ _ v => v = .type "int") (a : EvD c A env e g h (.bool b)) (hse : starEach [e] env = [(false, eval e env)]) : EvD c A env (.Call (.Name x p) [e] [] pos) g h (.int (if b then 1 else 0)) :=
  eCallT1 hf a (fun v g' h' G q => by
    cases q.bool_inv
    exact .of fun _ s _ _ _ q => call_int_bool (q _ (s.toks + 1) (.int _ _))) hse
theorem eIntS (hf : Ev c A (eval (.Name x p) env) g h fun _ _ v => v = .type "int") (a : EvD c A env e g h (.str (iText i))) (h0 : 0 ≤ i) (h1 : i < 10 ^ 10) (hse : starEach [e] env = [(false, eval e env)]) : EvD c A env (.Call (.Name x p) [e] [] pos) g h (.int i) :=
  eCallT1 hf a (fun v g' h' G q => by
    obtain ⟨t, rfl⟩ := q.str_inv
    exact .of fun _ s _ _ _ q => PySem.W.KIN.call_num h0 h1 (q _ (s.toks + 1) (.int _ _))) hse
theorem eEqS (P : EvD c A env l g h (.str y)) (R : EvD c A env r g h (.str z)) (hm : behindInMarks .Eq r = false) : EvD c A env (.Compare l [.Eq] [r] pos) g h (.bool (y == z)) := by
  refine .eq (eval_Compare1 ..) (P.bind fun v g₁ h₁ G₁ p => ?_)
  rw [markedBehindIn_of_false hm]
  refine (R.up G₁).hold.bind fun w g₂ h₂ G₂ q => ?_
  obtain ⟨_, rfl⟩ := p.str_inv
  obtain ⟨_, rfl⟩ := q.str_inv
  exact .stand (cmp_eqS.oper.imp fun u _ _ _ e => by rw [e]; exact .bool _)
theorem eMeth0 {o : Expr} {name : Str} {apos : Pos} {T id : String} {P : FB → Heap → Value → Prop} (pa : PlainAttrs T) (slot : Slot T name id) (hty : typeOf (.builtin id) = pure (.type "method_descriptor")) (q : EvD c A env o g h d)
    (ht : ∀ v g, Den g v d → ∀ s : Shared, s.TypeIs v T ∧ ∀ a, v = .ref a → ∃ ob, s.heap.get? a = some ob ∧ ob.dict = none)
    (k : ∀ v g' h', Gr g h g' h' → Den g' v d → Ev c A (call (.builtin id) [v]) g' h' P) (hbase : attributeBase o name env (eval o env) = eval o env) (hline : (apos.endLine == pos.line) = true) :
    Ev c A (eval (.Call (.Attribute o name apos) [] [] pos) env) g h P :=
  ⟨fun g₁ h₁ G₁ Q E z => Wp_meth pa slot hty (q.go g₁ h₁ G₁ _ _ fun v g₂ h₂ G₂ dv => ⟨fun s _ => ht v g₂ dv s, Wa_nil ((k v g₂ h₂ (G₁.trans G₂) dv).go g₂ h₂ G₂.here Q E fun w g₃ h₃ G₃ y => z w g₃ h₃ (G₂.trans G₃) y)⟩) hbase rfl hline rfl (.inl rfl)⟩
theorem eLower {o : Expr} {apos : Pos} (q : EvD c A env o g h (.str y)) (hfit : Builtin.Str.tooLong (Txt.lower y).length = false) (hbase : attributeBase o "lower" env (eval o env) = eval o env) (hline : (apos.endLine == pos.line) = true) :
    EvD c A env (.Call (.Attribute o "lower" apos) [] [] pos) g h (.str (Txt.lower y)) :=
  ⟨fun g₁ h₁ G₁ Q E z => ⟨fun s hs hr => Call_method0 hbase hline ((q.go g₁ h₁ G₁ (fun v h₂ => ∃ g₂, Gr g₁ h₁ g₂ h₂ ∧ Den g₂ v (.str y)) E fun v g₂ h₂ G₂ dv => ⟨g₂, G₂, dv⟩).wpAny_of hs hr fun v s₁ ⟨g₂, G₂, dv⟩ r₁ => by
    obtain ⟨t, rfl⟩ := dv.str_inv
    exact SB.lower hfit ⟨z _ g₂ s₁.heap G₂ (.str _ _), r₁⟩)⟩⟩
theorem eBitLen {o : Expr} {apos : Pos} (q : EvD c A env o g h (.int i)) (hbase : attributeBase o "bit_length" env (eval o env) = eval o env) (hline : (apos.endLine == pos.line) = true) :
    EvD c A env (.Call (.Attribute o "bit_length" apos) [] [] pos) g h (.int (Builtin.Int.intBits i)) :=
  eMeth0 PySem.F.plainAttrs_int PySem.F.slot_int_bit_length PySem.F.type_int_bit_length q (fun v g dv s => by obtain ⟨t, rfl⟩ := dv.int_inv; exact ⟨typeIs_int _ _ _, fun a e => by cases e⟩)
    (fun v g' h' G dv => by obtain ⟨t, rfl⟩ := dv.int_inv; exact .of fun _ s _ _ _ q => call_int_bit_length (q _ (s.toks + 1) (.int _ _))) hbase hline
noncomputable abbrev EvPt (c : GC) (A : Around) (env : Env) (oe : Option Expr) (g : FB) (h : Heap) (k : Option Int) : Prop := Ev c A (evalPart oe env) g h fun _ _ v => IsPart v k
theorem pNone : EvPt c A env none g h none := .pure fun _ _ _ => .none
theorem pInt (q : EvD c A env e g h (.int i)) : EvPt c A env (some e) g h (some i) := q.imp fun v _ _ _ z => by obtain ⟨t, rfl⟩ := z.int_inv; exact .int _ _
noncomputable def pickL {α : Type} (xs : List α) (lo hi st : Option Int) : List α := (sliceRange (sliceBounds lo hi st xs.length).1 (sliceBounds lo hi st xs.length).2.1 (sliceBounds lo hi st xs.length).2.2).filterMap (xs[·]?)
theorem pickL_map {α β : Type} (f : α → β) (xs : List α) (lo hi st : Option Int) : pickL (xs.map f) lo hi st = (pickL xs lo hi st).map f := by
  unfold pickL
  rw [List.length_map, List.map_filterMap]
  congr 1
  funext i
  simp
theorem Dens.pick {vs : List Value} (q : Dens g vs ds) (lo hi st : Option Int) : Dens g (slicePick vs.toArray lo hi st).toList (pickL ds lo hi st) := by
  unfold slicePick pickL
  rw [List.size_toArray, q.length]
  generalize sliceRange _ _ _ = idx
  show Dens g (List.filterMap _ idx) _
  induction idx with
  | nil => exact .nil
  | cons i idx ih =>
    rw [List.filterMap_cons, List.filterMap_cons]
    cases hd : ds[i]? with
    | none =>
      have : vs.toArray[i]? = none := by rw [List.getElem?_toArray]; rw [List.getElem?_eq_none_iff] at hd ⊢; rw [q.length]; exact hd
      rw [this]; exact ih
    | some d =>
      obtain ⟨v, ev, dv⟩ := q.get hd
      rw [List.getElem?_toArray, ev]
      exact .cons dv ih
theorem nSlice {lower upper step : Option Expr} {lo hi st : Option Int} {value : Expr} (P : EvL c A env value g h ds) (a : EvPt c A env lower g h lo) (b : EvPt c A env upper g h hi) (w : EvPt c A env step g h st) (h0 : st ≠ some 0) (hsz : ds.length ≤ sizeLine)
    (hs : ∀ a u, ∃ ops, subscripted (.Slice lower upper step p) false (.ref a) (.ref u) = operate ops (getItem (.ref a) (.ref u))) : EvN c A env (.Subscript value (.Slice lower upper step p) pos) g h (pickL ds lo hi st) :=
  ⟨fun g₁ h₁ G₁ => ⟨fun g₂ h₂ G₂ Q E q => ⟨fun s hs' hr => Subscript_ ((P.go g₂ h₂ (G₁.trans G₂) (fun v h₃ => ∃ g₃ o, Gr g₂ h₂ g₃ h₃ ∧ v = .ref o ∧ LstAt g₃ h₃ o ds) E fun v g₃ h₃ G₃ ⟨o, e, X⟩ => ⟨g₃, o, G₃, e, X⟩).wpAny_of hs' hr fun v s₃ ⟨g₃, o, G₃, e, X⟩ r₃ => by
    subst e
    refine wpAny_Slice ((a.go g₃ s₃.heap ((G₁.trans G₂).trans G₃) (fun v h₄ => ∃ g₄, Gr g₃ s₃.heap g₄ h₄ ∧ IsPart v lo) E fun v g₄ h₄ G₄ y => ⟨g₄, G₄, y⟩).wpAny_of rfl r₃ fun vl s₄ ⟨g₄, G₄, pl⟩ r₄ => ?_)
    refine (b.go g₄ s₄.heap (((G₁.trans G₂).trans G₃).trans G₄) (fun v h₅ => ∃ g₅, Gr g₄ s₄.heap g₅ h₅ ∧ IsPart v hi) E fun v g₅ h₅ G₅ y => ⟨g₅, G₅, y⟩).wpAny_of rfl r₄ fun vu s₅ ⟨g₅, G₅, pu⟩ r₅ => ?_
    refine (w.go g₅ s₅.heap ((((G₁.trans G₂).trans G₃).trans G₄).trans G₅) (fun v h₆ => ∃ g₆, Gr g₅ s₅.heap g₆ h₆ ∧ IsPart v st) E fun v g₆ h₆ G₆ y => ⟨g₆, G₆, y⟩).wpAny_of rfl r₅ fun vs' s₆ ⟨g₆, G₆, ps⟩ r₆ => ?_
    obtain ⟨vs, n, eo, kv⟩ := ((X.gr G₄).gr G₅).gr G₆
    have hl : s₆.heap.IsList o vs.toArray := ⟨_, eo, rfl, n, rfl⟩
    obtain ⟨ops, hops⟩ := hs o s₆.heap.objs.size
    have G7 : Gr g₆ s₆.heap g₆ ((s₆.heap.push { cls := .type "slice", data := .fields #[vl, vu, vs'] }).push { cls := .type "list", data := .seq (slicePick vs.toArray lo hi st) }) := (Gr.push G₆.gh).trans (.push (Gr.push G₆.gh).gh)
    have hn : (s₆.heap.push { cls := .type "slice", data := .fields #[vl, vu, vs'] }).get? (s₆.heap.push { cls := .type "slice", data := .fields #[vl, vu, vs'] }).objs.size = none := Heap.get?_push_self_none _
    have G6 : Gr g₁ h₁ g₆ s₆.heap := (((G₂.trans G₃).trans G₄).trans G₅).trans G₆
    refine tail_any (hl.push _).typeIs list_getitem_lookup (wpAny_getItem_list_slice (hl.push _) (Heap.IsSliceOf.new ..) pl pu ps h0 ⟨q _ g₆ _ ((((G₃.trans G₄).trans G₅).trans G₆).trans G7) ⟨_, rfl, ?_, ?_, (slicePick vs.toArray lo hi st).toList, 0, ?_, kv.pick lo hi st⟩, r₆⟩ ?_) hops
    · exact (Al.of (G6.trans (Gr.push G₆.gh)).kp).none hn
    · exact FB.none_of (Gr.push G₆.gh).gh hn
    · have := Heap.get?_push_size (s₆.heap.push { cls := .type "slice", data := .fields #[vl, vu, vs'] }) (o := { cls := .type "list", data := .seq (slicePick vs.toArray lo hi st) }) rfl
      simpa using this
    · rw [List.size_toArray, kv.length]; exact hsz)⟩⟩⟩
end
section
variable {c : GC} {A : Around} {env : Env} {g : FB} {h : Heap} {l r e : Expr} {pos p p' : Pos} {x : Str} {i j k : Int} {ds es : List Dt} {d : Dt} {y z : Str} {args : List Expr}
theorem nMul (P : EvL c A env l g h ds) (R : EvD c A env r g h (.int k)) (hlo : -(2 ^ 63 : Int) ≤ k) (hhi : k < 2 ^ 63) (hsz : ds.length * k.toNat ≤ 2 ^ 24) : EvN c A env (.BinOp l .Mult r pos) g h (List.replicate k.toNat ds).flatten :=
  ⟨fun g₁ h₁ G₁ => ⟨fun g₂ h₂ G₂ Q E q => Wp_BinOp (P.go g₂ h₂ (G₁.trans G₂) _ _ fun v g₃ h₃ G₃ ⟨a, ea, X⟩ => R.go g₃ h₃ ((G₁.trans G₂).trans G₃) _ _ fun w g₄ h₄ G₄ dw => ⟨fun s hs hr => by
    subst ea hs
    obtain ⟨u, rfl⟩ := dw.int_inv
    obtain ⟨vs, n, eo, kv⟩ := X.gr G₄
    have hn : s.heap.get? s.heap.objs.size = none := Heap.get?_push_self_none _
    have hl := kv.length
    refine wpAny_binaryOp_repeat_ref (T := "list") (U := "int") (by decide) ⟨_, eo, rfl⟩ (fun s' => typeIs_int s' k u) noFill_list_mul PySem.F.fills_int_mul PySem.F.slot_int_rmul repeat_list PySem.F.slot_int_index.lookup
      (call_meets PySem.F.slot_int_rmul (typeIs_int s k u) PySem.F.entry_int_rmul (PySem.F.args_int_rmul_2 _ _) (int___rmul___int_list k u a vs.toArray n)
        ⟨eo, rfl, ⟨_, eo, rfl⟩, call_meets PySem.F.slot_list_mul ⟨_, eo, rfl⟩ PySem.F.entry_list_mul (PySem.F.args_list_mul_2 _ _)
          (AutoListH.list___mul___list_int_3 a vs.toArray n k u (by simp [Builtin.List.listFitsIndex]; (first | lia | omega)) (by simp [hl]; (first | lia | omega)) (by simp [Builtin.List.listTooLong, sizeLine, hl]; (first | lia | omega)))
          ⟨eo, ?_, hr⟩⟩)
    refine q _ g₄ _ ((G₃.trans G₄).trans (.push G₄.gh)) ⟨_, rfl, (Al.of ((G₂.trans G₃).trans G₄).kp).none hn, FB.none_of G₄.gh hn, (List.replicate k.toNat vs).flatten, 0, ?_, ?_⟩
    · rw [Heap.get?_push_size _ rfl]
      congr 2
      have fl : ∀ (n : Nat) (acc : Array Value), List.foldl (fun (x1 x2 : Array Value) => x1 ++ x2) acc (List.replicate n vs.toArray) = acc ++ (List.replicate n vs).flatten.toArray := by
        intro n
        induction n with
        | zero => intro acc; simp
        | succ n ih => intro acc; rw [List.replicate_succ, List.foldl_cons, ih, List.replicate_succ, List.flatten_cons]; simp
      rw [fl]
      cases vs <;> simp
    · have rp : ∀ n : Nat, Dens g₄ (List.replicate n vs).flatten (List.replicate n ds).flatten := by
        intro n
        induction n with
        | zero => exact .nil
        | succ n ih => rw [List.replicate_succ, List.replicate_succ, List.flatten_cons, List.flatten_cons]; exact kv.append ih
      exact rp _⟩)⟩⟩
theorem eLenS (hf : Ev c A (eval (.Name x p) env) g h fun _ _ v => v = .builtin "len") (a : EvD c A env e g h (.str y)) (hse : starEach [e] env = [(false, eval e env)]) (hs : y.length < 2 ^ 62) : EvD c A env (.Call (.Name x p) [e] [] pos) g h (.int y.length) :=
  eCallB1 hf a (fun v g' h' G q => by
    obtain ⟨t, rfl⟩ := q.str_inv
    exact .of fun _ s _ _ _ q => PyProof.Rows.len_str (by (first | lia | omega)) (q _ (s.toks + 1 + 1) (.int _ _))) hse
theorem eIdxS {cc : Nat} {slice : Expr} (P : EvD c A env l g h (.str y)) (R : EvD c A env slice g h (.int k)) (hr : (decide (k < -(2 ^ 63 : Int)) || decide (k ≥ 2 ^ 63)) = false) (hc : (seqIndex? k y.length).bind (y.cps[·]?) = some cc)
    (hs : ∀ t u, subscripted slice false (.str y t) (.int k u) = operate [.str y t, .int k u] (getItem (.str y t) (.int k u))) : EvD c A env (.Subscript l slice pos) g h (.str ⟨#[cc]⟩) :=
  Ev_Sub P R mono_D fun o i g' h' G po pi => by
    obtain ⟨t, rfl⟩ := po.str_inv
    obtain ⟨u, rfl⟩ := pi.int_inv
    exact .of fun g₁ s G₁ _ _ q => tail_any (typeIs_str _ _ _) PySem.F.slot_str_getitem.lookup (PyProof.Rows.getItem_str hr hc (q _ (s.toks + 1) (.str _ _))) (hs t u)
theorem eSlcS {lower upper : Option Expr} {lo hi : Option Int} {value : Expr} (P : EvD c A env value g h (.str y)) (a : EvPt c A env lower g h lo) (b : EvPt c A env upper g h hi) (hsz : y.length ≤ sizeLine)
    (hs : ∀ t u, ∃ ops, subscripted (.Slice lower upper none p) false (.str y t) (.ref u) = operate ops (getItem (.str y t) (.ref u))) : EvD c A env (.Subscript value (.Slice lower upper none p) pos) g h (.str (Txt.slice y lo hi)) :=
  ⟨fun g₂ h₂ G₂ Q E q => ⟨fun s hs' hr => Subscript_ ((P.go g₂ h₂ G₂ (fun v h₃ => ∃ g₃, Gr g₂ h₂ g₃ h₃ ∧ Den g₃ v (.str y)) E fun v g₃ h₃ G₃ X => ⟨g₃, G₃, X⟩).wpAny_of hs' hr fun v s₃ ⟨g₃, G₃, X⟩ r₃ => by
    obtain ⟨t, rfl⟩ := X.str_inv
    refine wpAny_Slice ((a.go g₃ s₃.heap (G₂.trans G₃) (fun v h₄ => ∃ g₄, Gr g₃ s₃.heap g₄ h₄ ∧ IsPart v lo) E fun v g₄ h₄ G₄ y => ⟨g₄, G₄, y⟩).wpAny_of rfl r₃ fun vl s₄ ⟨g₄, G₄, pl⟩ r₄ => ?_)
    refine (b.go g₄ s₄.heap ((G₂.trans G₃).trans G₄) (fun v h₅ => ∃ g₅, Gr g₄ s₄.heap g₅ h₅ ∧ IsPart v hi) E fun v g₅ h₅ G₅ y => ⟨g₅, G₅, y⟩).wpAny_of rfl r₄ fun vu s₅ ⟨g₅, G₅, pu⟩ r₅ => ?_
    rw [evalPart_none]
    refine wpAny_pure ?_
    obtain ⟨ops, hops⟩ := hs t s₅.heap.objs.size
    obtain ⟨lo', el, rfl⟩ : ∃ l', vl = partValue l' ∧ lo = l'.map (·.1) := by cases pl with | none => exact ⟨none, rfl, rfl⟩ | int i t => exact ⟨some (i, t), rfl, rfl⟩
    obtain ⟨hi', eu, rfl⟩ : ∃ l', vu = partValue l' ∧ hi = l'.map (·.1) := by cases pu with | none => exact ⟨none, rfl, rfl⟩ | int i t => exact ⟨some (i, t), rfl, rfl⟩
    refine tail_any (typeIs_str _ _ _) PySem.F.slot_str_getitem.lookup (wpAny_getItem_str_slice (l := lo') (u := hi') (st := none) ⟨_, Heap.get?_push_size _ rfl, rfl, by rw [el, eu]; rfl⟩ rfl ?_) hops
    exact post_val_or_str ⟨Nat.le_trans (Txt.slice_le y _ _) hsz, fun t' k => ⟨q _ g₅ _ (((G₃.trans G₄).trans G₅).trans (.push G₅.gh)) (.str _ _), r₅⟩⟩)⟩⟩
end
noncomputable def Wk (loc : Loc) : Loc → Prop
  | [] => True
  | p :: l => loc.lookup p.1 = some p.2 ∧ Wk loc l
theorem Wk.all {loc : Loc} : ∀ {l : Loc}, Wk loc l → ∀ x d, l.lookup x = some d → loc.lookup x = some d
  | [], _ => fun _ _ q => by simp at q
  | (y, e) :: l, ⟨a, b⟩ => fun x d q => by
    rw [List.lookup_cons] at q
    by_cases z : x = y
    · subst z; simp at q; subst q; exact a
    · have z' : (x == y) = false := beq_eq_false_iff_ne.mpr z
      rw [z'] at q; exact b.all x d q
section
variable {c : GC} {A : Around} {env : Env} {r : Rec} {g : FB} {own own' pre mu rest : Led} {L a : Addr} {loc loc' : Loc} {h : Heap} {x x' : OC} {d : Dt}
theorem St.weakL (D : St c r g own L loc h) (w : Wk loc loc') : St c r g own L loc' h := D.weak w.all
theorem Up.app (u : Up a x x' own own') : ∀ {pre : Led}, Up a x x' (pre ++ own) (pre ++ own')
  | [] => u
  | _ :: pre => .tail (u.app (pre := pre))
theorem Sel.app (s : Sel own mu rest) : ∀ {pre : Led}, Sel (pre ++ own) mu (pre ++ rest)
  | [] => s
  | _ :: pre => .skip (s.app (pre := pre))
theorem St.mid {p : Addr × OC} (D : St c r g (p :: (pre ++ own)) L loc h) : St c r g (pre ++ p :: own) L loc h := D.perm List.perm_middle
theorem St.mids {q : Led} (D : St c r g (q ++ (pre ++ own)) L loc h) : St c r g (pre ++ (q ++ own)) L loc h := D.perm (by
  rw [← List.append_assoc, ← List.append_assoc]; exact List.perm_append_comm.append_right _)
theorem St.let_ (D : St c r g (pre ++ own) L loc h) (s : Sel own mu rest) : St c r g (pre ++ rest) L loc h :=
  D.sub (fun p hp => (s.app (pre := pre)).memL.2 p hp) ((s.app (pre := pre)).nd D.nd).2.1
end
section
variable {c : GC} {A : Around} {env : Env} {r : Rec} {g : FB} {own own' : Led} {L a : Addr} {loc loc' : Loc} {h : Heap} {d e d' : Dt} {v w : Value} {pos pos' px py tp apos : Pos} {E : Value → Heap → Prop} {ds es : List Dt} {o i ve el er : Expr} {rest : List Stmt} {Q : Flow → Heap → Prop} {x y z : Str} {j k : Int} {kk : Nat}
theorem evLoad (D : St c r g own L loc h) (hl : loc.lookup x = some d) (F : Fn env L) (hx : env.kindOf x = some .local) : Ev c A (loadName env x) g h fun g' _ v => Den g' v d :=
  .of fun g₁ s G _ _ q => by
    have hL := F.L
    subst hL
    obtain ⟨m, n, k⟩ := (D.grow G).ns
    obtain ⟨v, a, b⟩ := k x d hl
    exact wpAny_loadName_local F.k hx n a (q v s.toks b)
theorem sAug {op : Operator} (D : St c r g own L loc h) (F : Fn env L) (hl : loc.lookup x = some d) (hx : env.kindOf x = some .local) (p : EvD c A env ve g h e)
    (k : ∀ v w g' h', Gr g h g' h' → Den g' v d → Den g' w e → Ev c A (inplaceOp op v w) g' h' fun g'' _ u => Den g'' u d')
    (q : ∀ g' h', St c r g' own L ((x, d') :: loc) h' → Sub g g' → Wp c A (execs rest env) Q E h') : Wp c A (execs (.AugAssign (.Name x px) op ve pos :: rest) env) Q E h := by
  have W : Wp c A (loadName env x) (fun v h₁ => Wp c A (eval ve env) (fun w h₂ => Wp c A (inplaceOp op v w) (fun u h₃ => Wp c A (storeName env x u) (fun _ h₄ => Wp c A (execs rest env) Q E h₄) E h₃) E h₂) E h₁) E h :=
    (evLoad D hl F hx).wp D fun v g₁ h₁ D₁ G₁ dv => (p.up G₁).wp D₁ fun w g₂ h₂ D₂ G₂ dw => (k v w g₂ h₂ (G₁.trans G₂) (dv.mono G₂.sub) dw).wp D₂ fun u g₃ h₃ D₃ G₃ du => Wp_storeL D₃ du F hx fun h₄ D₄ => q g₃ h₄ D₄ ((G₁.trans G₂).trans G₃).sub
  exact sCons ⟨fun s hs hr => wpAny_AugAssign_Name (W.wpAny_of hs hr fun v s₁ y r₁ => y.wpAny_of rfl r₁ fun w s₂ y r₂ => y.wpAny_of rfl r₂ fun u s₃ y r₃ => y.wpAny_of rfl r₃ fun _ s₄ y r₄ => ⟨y, r₄⟩)⟩
section
variable {i j : Int}
theorem iAdd : Den g v (.int i) → Den g w (.int j) → Ev c A (inplaceOp .Add v w) g h fun g'' _ u => Den g'' u (.int (i + j)) := fun p q => by obtain ⟨_, rfl⟩ := p.int_inv; obtain ⟨_, rfl⟩ := q.int_inv; exact .of fun _ s _ _ _ q => iadd_int (q _ (s.toks + 1) (.int _ _))
theorem iSub : Den g v (.int i) → Den g w (.int j) → Ev c A (inplaceOp .Sub v w) g h fun g'' _ u => Den g'' u (.int (i - j)) := fun p q => by obtain ⟨_, rfl⟩ := p.int_inv; obtain ⟨_, rfl⟩ := q.int_inv; exact .of fun _ s _ _ _ q => isub_int (q _ (s.toks + 1) (.int _ _))
theorem iOr : Den g v (.int i) → Den g w (.int j) → Ev c A (inplaceOp .BitOr v w) g h fun g'' _ u => Den g'' u (.int (Builtin.bitOr i j)) := fun p q => by obtain ⟨_, rfl⟩ := p.int_inv; obtain ⟨_, rfl⟩ := q.int_inv; exact .of fun _ s _ _ _ q => ior_int (q _ (s.toks + 1) (.int _ _))
theorem iShl (h0 : 0 ≤ j) (hz : (Builtin.Int.intBits i : Int) + j ≤ 2 ^ 27) : Den g v (.int i) → Den g w (.int j) → Ev c A (inplaceOp .LShift v w) g h fun g'' _ u => Den g'' u (.int (i * 2 ^ j.toNat)) := fun p q => by obtain ⟨_, rfl⟩ := p.int_inv; obtain ⟨_, rfl⟩ := q.int_inv; exact .of fun _ s _ _ _ q => ilshift_int h0 hz (q _ (s.toks + 1) (.int _ _))
end
theorem sAugAdd (D : St c r g own L loc h) (F : Fn env L) (hl : loc.lookup x = some (.int j)) (hx : env.kindOf x = some .local) (p : EvD c A env ve g h (.int k))
    (q : ∀ g' h', St c r g' own L ((x, .int (j + k)) :: loc) h' → Sub g g' → Wp c A (execs rest env) Q E h') : Wp c A (execs (.AugAssign (.Name x px) .Add ve pos :: rest) env) Q E h :=
  sAug D F hl hx p (fun v w g' h' _ => iAdd) q
theorem sAugSub (D : St c r g own L loc h) (F : Fn env L) (hl : loc.lookup x = some (.int j)) (hx : env.kindOf x = some .local) (p : EvD c A env ve g h (.int k))
    (q : ∀ g' h', St c r g' own L ((x, .int (j - k)) :: loc) h' → Sub g g' → Wp c A (execs rest env) Q E h') : Wp c A (execs (.AugAssign (.Name x px) .Sub ve pos :: rest) env) Q E h :=
  sAug D F hl hx p (fun v w g' h' _ => iSub) q
theorem sSetL (D : St c r g own L loc h) (p : EvD c A env ve g h d) (po : EvD c A env o g h (.ref a)) (pi : EvD c A env i g h (.int k)) (U : Up a (.lst ds) (.lst (ds.set k.toNat d)) own own') (h0 : 0 ≤ k) (hk : k < ds.length) (hf : ds.length < 2 ^ 62)
    (hs : swapsWith ve (some (.Subscript o i pos')) pos.line env = pure false) (q : ∀ g' h', St c r g' own' L loc h' → Sub g g' → Wp c A (execs rest env) Q E h') : Wp c A (execs (.Assign [.Subscript o i pos'] ve pos :: rest) env) Q E h := by
  have W : Wp c A (eval ve env) (fun v h₁ => Wp c A (eval o env) (fun ov h₂ => Wp c A (eval i env) (fun iv h₃ => Wp c A (setItem ov iv v) (fun _ h₄ => Wp c A (execs rest env) Q E h₄) E h₃) E h₂) E h₁) E h :=
    p.wp D fun v g₁ h₁ D₁ G₁ dv => (po.up G₁).wp D₁ fun ov g₂ h₂ D₂ G₂ eo => (pi.up (G₁.trans G₂)).wp D₂ fun iv g₃ h₃ D₃ G₃ di => by
      cases eo.ref_inv
      obtain ⟨t, rfl⟩ := di.int_inv
      exact Wp_setItem D₃ ((dv.mono G₂.sub).mono G₃.sub) U h0 hk hf fun h₄ D₄ => q g₃ h₄ D₄ ((G₁.trans G₂).trans G₃).sub
  exact sCons ⟨fun s hs' hr => wpAny_Assign_Subscript (W.wpAny_of hs' hr fun v s₁ y r₁ => y.wpAny_of rfl r₁ fun w s₂ y r₂ => y.wpAny_of rfl r₂ fun u s₃ y r₃ => y.wpAny_of rfl r₃ fun _ s₄ y r₄ => ⟨y, r₄⟩) hs⟩
theorem sAsgTW {elts : List Expr} (W : Wp c A (eval ve env) (fun v h₁ => Wp c A (assign (.Tuple elts kk tp) env v) (fun _ h₂ => Wp c A (execs rest env) Q E h₂) E h₁) E h)
    (hs : swapsWithSole [.Tuple elts kk tp] ve pos.line env = pure false) (hw : swappedStores [.Tuple elts kk tp] ve env = pure none) : Wp c A (execs (.Assign [.Tuple elts kk tp] ve pos :: rest) env) Q E h :=
  sCons ⟨fun s hs' hr => Assign_Tuple (W.wpAny_of hs' hr fun v s₁ y r₁ => y.wpAny_of rfl r₁ fun _ s₄ y r₄ => ⟨y, r₄⟩) hs hw⟩
theorem Wp_unpackT {R : List Value → Heap → Prop} {n : Nat} (D : St c r g own L loc h) (hh : A.handled = none) (dv : Den g v (.tup ds)) (hn : n = ds.length) (k : ∀ vs h', St c r g own L loc h' → Dens g vs ds → R vs h') : Wp c A (unpackItems v n none) R E h := ⟨fun s hs hr => by
  subst hs
  obtain ⟨a, vs, m, rfl, eo, kv⟩ := dv.tup_inv
  have hn : n = vs.toArray.size := by rw [hn, List.size_toArray, kv.length]
  subst hn
  refine unpackItems_tuple hh ⟨_, D.gh _ _ eo, rfl, m, rfl⟩ fun h₁ he₁ => ⟨?_, hr⟩
  have D₁ : St c r g own L loc h₁ := D.grow (.heap D.gh fun b o e => he₁ b o (Nat.ne_of_lt (Heap.lt_size e)) e)
  exact k _ h₁ D₁ (by simpa using kv)⟩
theorem sAsgSwW {elts : List Expr} {names : List Str} (W : Wp c A (eval ve env) (fun v h₁ => Wp c A (unpackItems v names.length none) (fun items h₂ => Wp c A (assignInOrder (names.reverse.map fun n => bindName env n) items.reverse) (fun _ h₃ => Wp c A (execs rest env) Q E h₃) E h₂) E h₁) E h)
    (hs : swapsWithSole [.Tuple elts kk tp] ve pos.line env = pure false) (hw : swappedStores [.Tuple elts kk tp] ve env = pure (some names)) : Wp c A (execs (.Assign [.Tuple elts kk tp] ve pos :: rest) env) Q E h :=
  sCons ⟨fun s hs' hr => Assign_Tuple_swapped (W.wpAny_of hs' hr fun v s₁ y r₁ => y.wpAny_of rfl r₁ fun items s₂ y r₂ => y.wpAny_of rfl r₂ fun _ s₄ y r₄ => ⟨y, r₄⟩) hs hw⟩
theorem Wp_inOrder0 {R : Unit → Heap → Prop} (x : R () h) : Wp c A (assignInOrder [] []) R E h := ⟨fun s hs hr => assignInOrder_nil ⟨hs ▸ x, hr⟩⟩
theorem Wp_inOrder {f : Value → Sem Unit} {fs : List (Value → Sem Unit)} {vs : List Value} {R : Unit → Heap → Prop} (x : Wp c A (f v) (fun _ h' => Wp c A (assignInOrder fs vs) R E h') E h) : Wp c A (assignInOrder (f :: fs) (v :: vs)) R E h :=
  ⟨fun s hs hr => assignInOrder_cons (x.wpAny_of hs hr fun _ s₁ y r₁ => y.run s₁ rfl r₁)⟩
theorem sAsgSw2 {elts : List Expr} (D : St c r g own L loc h) (F : Fn env L) (hh : A.handled = none) (p : EvD c A env ve g h (.tup [d, e])) (hx : env.kindOf x = some .local) (hy : env.kindOf y = some .local)
    (hs : swapsWithSole [.Tuple elts kk tp] ve pos.line env = pure false) (hw : swappedStores [.Tuple elts kk tp] ve env = pure (some [x, y]))
    (q : ∀ g' h', St c r g' own L ((x, d) :: (y, e) :: loc) h' → Sub g g' → Wp c A (execs rest env) Q E h') : Wp c A (execs (.Assign [.Tuple elts kk tp] ve pos :: rest) env) Q E h := by
  refine sAsgSwW (p.wp D fun v g₁ h₁ D₁ G₁ dv => Wp_unpackT D₁ hh dv rfl fun vs h₂ D₂ kv => ?_) hs hw
  obtain ⟨v₁, v₂, rfl, d₁, d₂⟩ := kv.two_inv
  exact Wp_inOrder (Wp_bindName (Wp_storeL D₂ d₂ F hy fun h₃ D₃ => Wp_inOrder (Wp_bindName (Wp_storeL D₃ d₁ F hx fun h₄ D₄ => Wp_inOrder0 (q g₁ h₄ D₄ G₁.sub)))))
theorem sAsgT2 (D : St c r g own L loc h) (F : Fn env L) (hh : A.handled = none) (p : EvD c A env ve g h (.tup [d, e])) (hx : env.kindOf x = some .local) (hy : env.kindOf y = some .local)
    (hs : swapsWithSole [.Tuple [.Name x px, .Name y py] kk tp] ve pos.line env = pure false) (hw : swappedStores [.Tuple [.Name x px, .Name y py] kk tp] ve env = pure none)
    (q : ∀ g' h', St c r g' own L ((y, e) :: (x, d) :: loc) h' → Sub g g' → Wp c A (execs rest env) Q E h') : Wp c A (execs (.Assign [.Tuple [.Name x px, .Name y py] kk tp] ve pos :: rest) env) Q E h :=
  sAsgTW (p.wp D fun v g₁ h₁ D₁ G₁ dv => Wp_asgTup2 D₁ hh dv F hx hy fun h₂ D₂ => q g₁ h₂ D₂ G₁.sub) hs hw
theorem sAsgTwo (D : St c r g own L loc h) (F : Fn env L) (p : EvD c A env ve g h d) (hx : env.kindOf x = some .local) (hy : env.kindOf y = some .local) (hw : swappedStores [.Name x px, .Name y py] ve env = pure none)
    (q : ∀ g' h', St c r g' own L ((y, d) :: (x, d) :: loc) h' → Sub g g' → Wp c A (execs rest env) Q E h') : Wp c A (execs (.Assign [.Name x px, .Name y py] ve pos :: rest) env) Q E h := by
  have W : Wp c A (eval ve env) (fun v h₁ => Wp c A (assign (.Name x px) env v) (fun _ h₂ => Wp c A (assign (.Name y py) env v) (fun _ h₄ => Wp c A (execs rest env) Q E h₄) E h₂) E h₁) E h :=
    p.wp D fun v g₁ h₁ D₁ G₁ dv => Wp_asgL D₁ dv F hx fun h₂ D₂ => Wp_asgL D₂ dv F hy fun h₃ D₃ => q g₁ h₃ D₃ G₁.sub
  exact sCons ⟨fun s hs' hr => wpAny_Assign_two (W.wpAny_of hs' hr fun v s₁ y r₁ => y.wpAny_of rfl r₁ fun _ s₂ y r₂ => y.wpAny_of rfl r₂ fun _ s₄ y r₄ => ⟨y, r₄⟩) rfl hw⟩
theorem nListRange {b st : Int} {j : Int} {n : Nat} {p : Pos} (hh : A.handled = none) (hf : Ev c A (eval (.Name x p) env) g h fun _ _ v => v = .type "list") (pr : Ev c A (eval ve env) g h fun g' _ v => RngAt g' v j b st) (hse : starEach [ve] env = [(false, eval ve env)])
    (hsm : Builtin.Range.small j b st = true) (hn : Builtin.Range.rangeSize j b st = (n : Int)) (hlen : n ≤ 2 ^ 24) : EvN c A env (.Call (.Name x p) [ve] [] pos) g h ((List.range n).map fun i : Nat => Dt.int (j + (i : Int) * st)) :=
  ⟨fun g₁ h₁ G₁ => by
    have hb : backTo pos (starEach [ve] env) = [(false, eval ve env)] := by rw [hse]; rfl
    refine eCallT (P₀ := fun g' h' vs => ∃ v, vs = [v] ∧ RngAt g' v j b st) (hf.up G₁) ?_ (fun vs g' h' G ⟨v, e, z⟩ => ?_) (by rw [hb]; rfl) ⟨_, _, hb⟩
    · rw [hb]
      exact ⟨fun g₂ h₂ G₂ Q E q => ⟨fun s hs hr => Calls.spliced_cons ((pr.go g₂ h₂ (G₁.trans G₂) _ _ fun v g₃ h₃ G₃ z => (⟨fun s hs hr => Calls.spliced_nil ⟨hs ▸ q [v] g₃ h₃ G₃ ⟨v, rfl, z⟩, hr⟩⟩ : Wp c A (spliced []) (fun vs => Q (v :: vs)) E h₃)).wpAny_of hs hr fun v s₁ y r₁ => y.run s₁ rfl r₁)⟩⟩
    · subst e
      obtain ⟨a, t, u, w, rfl, eo⟩ := z
      refine .ofG fun g₂ s G₂ Q E q => ?_
      have hnn : s.heap.get? s.heap.objs.size = none := Heap.get?_push_self_none _
      refine call_list_range (n := n) hh (G₂.gh _ _ (G₂.sub _ _ eo)) hsm hn hlen fun h'' tk acc' c' hk hS' hacc => q _ h'' tk g₂ (.heap G₂.gh hk) ⟨_, rfl, (Al.of (G.trans G₂).kp).none hnn, FB.none_of G₂.gh hnn, acc'.toList, c', by rw [hS'], ?_⟩
      have go : ∀ (l : List Value) (i₀ m : Nat), l.length = m → (∀ (k : Nat) (v : Value), l[k]? = some v → ∃ t, v = Value.int (j + ((i₀ + k : Nat) : Int) * st) t) → Dens g₂ l ((List.range' i₀ m).map fun i : Nat => Dt.int (j + (i : Int) * st)) := by
        intro l
        induction l with
        | nil => intro i₀ m hm _; cases hm; exact .nil
        | cons v l ih =>
          intro i₀ m hm hk
          obtain ⟨m, rfl⟩ : ∃ k, m = k + 1 := ⟨m - 1, by simp at hm; (first | lia | omega)⟩
          rw [List.range'_succ, List.map_cons]
          obtain ⟨t, ev⟩ := hk 0 v rfl
          refine .cons (by rw [ev]; exact .int _ _) (ih (i₀ + 1) m (by simpa using hm) fun k w hw => ?_)
          obtain ⟨t, e⟩ := hk (k + 1) w (by simpa using hw)
          exact ⟨t, by rw [e]; congr 4; (first | lia | omega)⟩
      rw [List.range_eq_range']
      exact go acc'.toList 0 n (by simpa using hacc.1) fun k v hv => by
        obtain ⟨t, e⟩ := hacc.2 k v (by simpa using hv)
        exact ⟨t, by rw [e]; congr 4; (first | lia | omega)⟩⟩
theorem pOrNone {xe : Expr} {kc : Nat} {p p' : Pos} (q : EvD c A env xe g h (.int k)) : EvPt c A env (some (.BoolOp .Or [xe, .Constant .none kc p'] p)) g h (if k = 0 then none else some k) :=
  eOrInt q (fun hk _ _ v dv => by rw [if_neg hk]; obtain ⟨t, rfl⟩ := dv.int_inv; exact .int _ _) (fun hk => by rw [if_pos hk]; exact (eNone (k := kc) (pos := p')).imp fun v _ _ _ z => by cases z.none_inv; exact IsPart.none)
end
theorem sliceRange_nat (a b : Nat) : sliceRange (a : Int) (b : Int) 1 = List.range' a (b - a) := by
  unfold sliceRange
  rw [if_pos (by decide)]
  have : (if (a : Int) < b then ((b : Int) - a + 1 - 1) / 1 else 0).toNat = b - a := by split <;> simp <;> (first | lia | omega)
  show List.map _ (List.range (if (a : Int) < b then ((b : Int) - a + 1 - 1) / 1 else 0).toNat) = _
  rw [this, List.range'_eq_map_range]
  apply List.map_congr_left
  intro k _
  simp; (first | lia | omega)
theorem filterMap_get {α : Type} (xs : List α) (m : Nat) : ∀ a : Nat, (List.range' a m).filterMap (xs[·]?) = (xs.drop a).take m := by
  induction m with
  | zero => intro a; simp
  | succ m ih =>
    intro a
    rw [List.range'_succ, List.filterMap_cons, ih]
    by_cases h : a < xs.length
    · rw [List.getElem?_eq_getElem h, List.drop_eq_getElem_cons h, List.take_succ_cons]
    · rw [List.getElem?_eq_none_iff.mpr (by (first | lia | omega)), List.drop_eq_nil_of_le (by (first | lia | omega)), List.drop_eq_nil_of_le (by (first | lia | omega))]; simp
noncomputable def cut {α : Type} (xs : List α) (lo hi : Option Int) : List α := (xs.drop (lo.elim 0 (clipAt xs.length))).take (hi.elim xs.length (clipAt xs.length) - lo.elim 0 (clipAt xs.length))
theorem pickL_cut {α : Type} (xs : List α) (lo hi : Option Int) : pickL xs lo hi none = cut xs lo hi := by
  unfold pickL
  rw [sliceBounds_plain]
  show List.filterMap _ (sliceRange _ _ 1) = _
  rw [sliceRange_nat, filterMap_get]; rfl
theorem clip_nat (n k : Nat) : (max 0 (min (k : Int) (n : Int))).toNat = min k n := by
  rcases Nat.le_total k n with h | h
  · rw [Int.min_eq_left (Int.ofNat_le.mpr h), Int.max_eq_right (Int.natCast_nonneg k), Nat.min_eq_left h]; rfl
  · rw [Int.min_eq_right (Int.ofNat_le.mpr h), Int.max_eq_right (Int.natCast_nonneg n), Nat.min_eq_right h]; rfl
theorem clip_pos (n k : Nat) : clipAt n (k : Int) = min k n := by unfold clipAt; rw [if_neg (Int.not_lt.mpr (Int.natCast_nonneg k))]; exact clip_nat n k
theorem clip_neg (n k : Nat) (h : 0 < k) : clipAt n (-(k : Int)) = n - k := by
  unfold clipAt
  rw [if_pos (Int.neg_neg_of_pos (Int.ofNat_lt.mpr h))]
  rcases Nat.le_total k n with h | h
  · rw [show -(k : Int) + n = ((n - k : Nat) : Int) by rw [Int.ofNat_sub h, Int.add_comm]; rfl, clip_nat, Nat.min_eq_left (Nat.sub_le n k)]
  · have e : -(k : Int) + n ≤ 0 := by rw [Int.add_comm]; exact Int.sub_nonpos_of_le (Int.ofNat_le.mpr h)
    rw [Int.max_eq_left (Int.le_trans (Int.min_le_left _ _) e), Nat.sub_eq_zero_of_le h]; rfl
theorem cut_from {α : Type} (xs : List α) (k : Nat) : cut xs (some (k : Int)) none = xs.drop k := by
  unfold cut
  simp only [Option.elim, clip_pos]
  rw [kmk_drop_min, List.take_of_length_le (by rw [List.length_drop]; exact Nat.sub_le_sub_left (Nat.min_le_left _ _) _)]
theorem cut_to {α : Type} (xs : List α) (k : Nat) : cut xs none (some (k : Int)) = xs.take k := by
  unfold cut
  simp only [Option.elim, clip_pos]
  rw [List.drop_zero, Nat.sub_zero, kmk_take_min]
theorem cut_toN {α : Type} (xs : List α) (k : Nat) (h : 0 < k) : cut xs none (some (-(k : Int))) = xs.take (xs.length - k) := by
  unfold cut
  simp only [Option.elim, clip_neg _ _ h]
  rw [List.drop_zero, Nat.sub_zero]
theorem cut_fromN {α : Type} (xs : List α) (k : Nat) (h : 0 < k) : cut xs (some (-(k : Int))) none = xs.drop (xs.length - k) := by
  unfold cut
  simp only [Option.elim, clip_neg _ _ h]
  rw [List.take_of_length_le (by simp)]
theorem cut_mid {α : Type} (xs : List α) (a b : Nat) : cut xs (some (a : Int)) (some (b : Int)) = (xs.drop a).take (b - a) := by
  unfold cut
  simp only [Option.elim, clip_pos]
  rw [kmk_drop_min]
  by_cases h : b ≤ xs.length
  · by_cases h' : a ≤ xs.length
    · rw [Nat.min_eq_left h, Nat.min_eq_left h']
    · rw [List.drop_eq_nil_of_le (Nat.le_of_not_le h')]; simp
  · have hb := Nat.le_of_not_le h
    rw [List.take_of_length_le (by rw [List.length_drop, Nat.min_eq_right hb]; exact Nat.sub_le_sub_left (Nat.min_le_left _ _) _), List.take_of_length_le (by rw [List.length_drop]; exact Nat.sub_le_sub_right hb _)]
theorem cut_all {α : Type} (xs : List α) : cut xs none none = xs := by
  unfold cut
  simp only [Option.elim]
  rw [List.drop_zero, Nat.sub_zero, List.take_length]
theorem clip_le (n : Nat) (i : Int) : clipAt n i ≤ n := Int.toNat_le.mpr (Int.max_le.mpr ⟨Int.natCast_nonneg n, Int.min_le_right _ _⟩)
noncomputable abbrev S (l : List Nat) : Str := ⟨l.toArray⟩
theorem S_len (l : List Nat) : (S l).length = l.length := by show l.toArray.size = _; simp
theorem S_inj {l m : List Nat} : (S l == S m) = (l == m) := by
  by_cases h : l = m
  · subst h; simp
  · rw [beq_eq_false_iff_ne.mpr h, beq_eq_false_iff_ne.mpr]
    intro e; injection e with e; exact h (by simpa using e)
theorem strIdx (lo hi : Option Int) (n : Nat) : Builtin.Str.strSliceIndices lo hi 1 n = List.range' (lo.elim 0 (clipAt n)) (hi.elim n (clipAt n) - lo.elim 0 (clipAt n)) := by
  rw [← sliceRange_nat]
  unfold Builtin.Str.strSliceIndices
  cases lo <;> cases hi <;> simp only [show (1 : Int) > 0 by decide, if_true, Option.elim, clipAt_cast] <;> rfl
theorem slice_S (l : List Nat) (lo hi : Option Int) : Txt.slice (S l) lo hi = S (cut l lo hi) := by
  unfold Txt.slice
  rw [S_len, strIdx, List.length_range']
  split
  · next h =>
    simp at h
    unfold cut
    have h1 : hi.elim l.length (clipAt l.length) ≤ l.length := by cases hi <;> simp [clip_le]
    generalize hi.elim l.length (clipAt l.length) = b at *
    generalize lo.elim 0 (clipAt l.length) = a at *
    by_cases hz : l.length = 0
    · have := List.length_eq_zero_iff.mp hz; subst this; simp
    · have : a = 0 := by (first | lia | omega)
      subst this
      rw [List.drop_zero, List.take_of_length_le (by (first | lia | omega))]
  · have : (fun (i : Nat) => (S l).cps[i]?) = fun i => l[i]? := by funext i; show l.toArray[i]? = _; simp
    rw [this, filterMap_get]; rfl
section
variable {c : GC} {A : Around} {env : Env} {r : Rec} {g : FB} {own own' : Led} {L a : Addr} {loc loc' : Loc} {h : Heap} {d e d' : Dt} {pos : Pos} {E : Value → Heap → Prop} {Q : Flow → Heap → Prop} {rest : List Stmt}
theorem Bas.pre (B : Bas c g h) : Pre c g [] h := ⟨B.1, B.2, fun _ q => (by cases q), .nil⟩
theorem sSplit {xs : List Stmt} (x : Wp c A (execs xs env) (Sq c A env rest Q E) E h) : Wp c A (execs (xs ++ rest) env) Q E h := by
  refine Wp_eq (execs_app xs rest) (Wp_bind (x.imp fun f h' y => ?_))
  cases f <;> first | exact y | exact Wp_pure y
theorem sIfJ {test : Expr} {body orelse : List Stmt} {b : Bool} (J : FB → Led → Loc → Prop) (D : St c r g own L loc h) (p : EvB c A env test g h b)
    (k1 : b = true → ∀ g' h', St c r g' own L loc h' → Sub g g' → Wp c A (execs body env) (fun f h'' => match f with | .next => ∃ g'' own'' loc'', J g'' own'' loc'' ∧ Sub g' g'' ∧ St c r g'' own'' L loc'' h'' | f => Q f h'') E h')
    (k2 : b = false → ∀ g' h', St c r g' own L loc h' → Sub g g' → Wp c A (execs orelse env) (fun f h'' => match f with | .next => ∃ g'' own'' loc'', J g'' own'' loc'' ∧ Sub g' g'' ∧ St c r g'' own'' L loc'' h'' | f => Q f h'') E h')
    (k3 : ∀ g' own' loc' h', J g' own' loc' → Sub g g' → St c r g' own' L loc' h' → Wp c A (execs rest env) Q E h') : Wp c A (execs (.If test body orelse pos :: rest) env) Q E h :=
  sIf D p (fun e g' h' D' s => sSplit ((k1 e g' h' D' s).imp fun f h'' y => by cases f <;> first | exact y | exact (let ⟨g'', own'', loc'', j, s', D''⟩ := y; k3 g'' own'' loc'' h'' j (s.trans s') D'')))
    fun e g' h' D' s => sSplit ((k2 e g' h' D' s).imp fun f h'' y => by cases f <;> first | exact y | exact (let ⟨g'', own'', loc'', j, s', D''⟩ := y; k3 g'' own'' loc'' h'' j (s.trans s') D''))
end
theorem small_ok {a b c : Int} (ha : 0 ≤ a) (hb : 0 ≤ b) (ha2 : a < 2 ^ 60) (hb2 : b < 2 ^ 60) (hc : 1 ≤ c) (hc2 : c < 2 ^ 60) : Builtin.Range.small a b c = true := by
  have hs : 0 ≤ Builtin.Range.rangeSize a b c ∧ Builtin.Range.rangeSize a b c < 2 ^ 61 := by
    unfold Builtin.Range.rangeSize
    rw [if_pos (by (first | lia | omega))]
    split
    · have h1 : 0 ≤ b - a - 1 := by (first | lia | omega)
      have h2 : (b - a - 1) / c ≤ b - a - 1 := Int.ediv_le_self _ h1
      have h3 : 0 ≤ (b - a - 1) / c := Int.ediv_nonneg h1 (by (first | lia | omega))
      (first | lia | omega)
    · (first | lia | omega)
  unfold Builtin.Range.small
  rw [if_pos (show c > 0 by (first | lia | omega))]
  generalize Builtin.Range.rangeSize a b c = z at *
  simp only [Builtin.Range.rangeFitsLong, Bool.and_eq_true, Bool.or_eq_true, decide_eq_true_eq]
  have f : ∀ i : Int, 0 ≤ i → i < 2 ^ 61 → -2 ^ 63 ≤ i ∧ i < 2 ^ 63 := fun i h0 h1 => ⟨Int.le_trans (by decide) h0, Int.lt_trans h1 (by decide)⟩
  have g : ∀ i : Int, i < 2 ^ 60 → i < 2 ^ 61 := fun i h => Int.lt_trans h (by decide)
  have hc0 : 0 ≤ c - 1 := Int.sub_nonneg_of_le hc
  exact ⟨⟨⟨⟨f a ha (g a ha2), f b hb (g b hb2)⟩, f c (Int.le_trans (by decide) hc) (g c hc2)⟩, f _ hs.1 hs.2⟩, .inr (f _ (Int.add_nonneg hb hc0) (Int.add_lt_add hb2 (Int.lt_trans (Int.sub_lt_self c (by decide)) hc2)))⟩
theorem size_one {n : Nat} : Builtin.Range.rangeSize 0 (n : Int) 1 = (n : Int) := by
  unfold Builtin.Range.rangeSize
  rw [if_pos (by decide)]
  split <;> (first | lia | omega)
noncomputable def CodeK (g : FB) (c' : Addr) (qual : Str) : Prop := ∃ oc vs t, g c' = some oc ∧ oc.data = .fields vs ∧ vs[1]? = some (Value.str qual t)
theorem CodeK.mono {g g' : FB} {c' : Addr} {qual : Str} (k : CodeK g c' qual) (s : Sub g g') : CodeK g' c' qual := let ⟨oc, vs, t, e, r⟩ := k; ⟨oc, vs, t, s _ _ e, r⟩
noncomputable abbrev OC.tab (pos : Pos) (qual : Str) : OC := .gp fun g o => o = tabObj #[] ∨ ∃ c', o = tabObj #[rawInt pos.line, rawInt pos.col, .ref c'] ∧ CodeK g c' qual
noncomputable abbrev fnM (name qual : Str) (params : Arguments) (fb : FuncBody) (scope : Scope) (clos : List (Str × Addr)) (pm : Value) (c' : Addr) (ctv : Value) : Obj :=
  { cls := .type "function", data := .func { name, qualname := qual, params, body := fb, scope, globals := mainGlobals, closure := clos, defaults := .none, kwdefaults := .none, doc := .none, pyModule := pm, annotations := none, code := .ref c', closureTuple := ctv, builtins := builtinsNs } }
noncomputable def noDoc : FuncBody → Bool
  | .stmts b => (docOf b).isNone
  | .expr _ => true
section
variable {M : Model} {A : Around} {E : Value → Shared → Prop} {s : Shared} {name qual : Str} {params : Arguments} {fb : FuncBody} {scope : Scope} {env : Env} {c P : Addr} {ps : Array Value} {pos : Pos} {firstLine : Nat} {mg : Str → Option Value}
  {clos : List (Str × Addr)} {Q : Value → Shared → Prop}
theorem wp_ite {α : Type} {b : Bool} {x y : Sem α} {Q : α → Shared → Prop} {M : Model} (hb : b = false) (h : wpAny M A y Q E s) : wpAny M A (if b = true then x else y) Q E s := by rw [hb]; exact h
theorem wp_iteT {α : Type} {b : Bool} {x y : Sem α} {Q : α → Shared → Prop} {M : Model} (hb : b = true) (h : wpAny M A x Q E s) : wpAny M A (if b = true then x else y) Q E s := by rw [hb]; exact h
theorem wp_doc {d : Option Str} {Q : Value → Shared → Prop} (hd : d = none) (h : Q .none s) : wpAny M A (match d with | some x => mkText x | none => pure .none) Q E s := by rw [hd]; exact wpAny_pure h
theorem mf_pre (h : wpAny M A (makeTail name qual params fb scope env .none .none none pos firstLine) Q E s) : wpAny M A (makeFunction name qual params fb scope env [] [] [] pos firstLine) Q E s := by
  rw [makeFunction_eq]
  simp only [List.zip_nil_right, List.filterMap_nil, List.isEmpty_nil, if_true, pure_bind]
  exact h
theorem makeAny_K (hcl : closureFor scope env = pure clos) (hge0 : env.globals = mainGlobals) (hg : s.heap.Ns mainGlobals mg) (hcode : env.code = .ref c) (C : CodeHd s.heap c P) (hP : s.heap.get? P = some (tabObj ps)) (ht : TriplesOk ps.toList)
    (hnf : codeAmong pos ps.toList = none) (hgP : mainGlobals ≠ P) (hb : s.heap.BuiltinsAt mg P) (hdoc : noDoc fb = true)
    (h : ∀ c' ctv h' tk, Heap.ExtBut P s.heap h' → s.heap.objs.size ≤ c' → c' < h'.objs.size → h'.CodeRec (.ref c') qual → h'.get? P = some (tabObj (ps ++ #[rawInt pos.line, rawInt pos.col, .ref c'])) →
      Q (.ref h'.objs.size) { s with heap := h'.push (fnM name qual params fb scope clos ((mg "__name__").getD .none) c' ctv), toks := tk }) :
    wpAny M A (makeFunction name qual params fb scope env [] [] [] pos firstLine) Q E s := by
  obtain ⟨bm, ob, hbm, hne0, _, hneP, hbo, hcls, hdict, hdata⟩ := hb
  refine mf_pre ?_
  unfold makeTail
  rw [hcl, hge0]
  refine wpAny_bind (wpAny_pure ?_)
  cases clos with
  | nil =>
    refine wp_iteT rfl (wpAny_bind (wpAny_pure ?_))
    refine wpAny_bind (wpAny_functionCodeX hcode (C.code hP ht) (C.tab hP) hnf fun c' h' tk hx hge hlt _ hrec htb _ => ?_)
    have hg' := hg.extBut hx hgP
    refine wpAny_bind (wpAny_builtinsFor hg' hbm hne0 (hx _ _ hneP hbo) hcls hdict hdata ?_)
    refine wpAny_bind (wpAny_nsGet hg' ?_)
    cases fb with
    | stmts b =>
      have hd : docOf b = none := Option.isNone_iff_eq_none.mp hdoc
      exact wpAny_bind (wp_doc hd (wpAny_newObj_type (h c' .none h' tk hx hge hlt hrec htb.2) (by size_fits)))
    | expr e => exact wpAny_bind (wpAny_pure (wpAny_newObj_type (h c' .none h' tk hx hge hlt hrec htb.2) (by size_fits)))
  | cons q r =>
    refine wp_ite rfl (wpAny_bind (wpAny_newTextTuple ?_))
    refine wpAny_bind (wpAny_functionCodeX hcode ((C.keeps fun b o e => Heap.get?_push_of_some _ e).code (Heap.get?_push_of_some _ hP) ht) ((C.keeps fun b o e => Heap.get?_push_of_some _ e).tab (Heap.get?_push_of_some _ hP)) hnf fun c' h' tk hx hge hlt _ hrec htb _ => ?_)
    have hg' := (hg.push _).extBut hx hgP
    have hx' : Heap.ExtBut P s.heap h' := fun b o hb' e => hx b o hb' (Heap.get?_push_of_some _ e)
    have hge' : s.heap.objs.size ≤ c' := Nat.le_trans (by rw [Heap.size_push]; (first | lia | omega)) hge
    refine wpAny_bind (wpAny_builtinsFor hg' hbm hne0 (hx' _ _ hneP hbo) hcls hdict hdata ?_)
    refine wpAny_bind (wpAny_nsGet hg' ?_)
    cases fb with
    | stmts b =>
      have hd : docOf b = none := Option.isNone_iff_eq_none.mp hdoc
      exact wpAny_bind (wp_doc hd (wpAny_newObj_type (h c' _ h' tk hx' hge' hlt hrec htb.2) (by size_fits)))
    | expr e => exact wpAny_bind (wpAny_pure (wpAny_newObj_type (h c' _ h' tk hx' hge' hlt hrec htb.2) (by size_fits)))
theorem makeAny_hit {c' : Addr} (hcl : closureFor scope env = pure clos) (hge0 : env.globals = mainGlobals) (hg : s.heap.Ns mainGlobals mg) (hcode : env.code = .ref c) (C : CodeHd s.heap c P) (hP : s.heap.get? P = some (tabObj ps)) (ht : TriplesOk ps.toList)
    (hf : codeAmong pos ps.toList = some (.ref c')) (hb : s.heap.BuiltinsAt mg P) (hdoc : noDoc fb = true)
    (h : ∀ (ctv : Value) (h' : Heap) (tk : Tok), (∀ b o, s.heap.get? b = some o → h'.get? b = some o) → s.heap.objs.size ≤ h'.objs.size →
      Q (.ref h'.objs.size) { s with heap := h'.push (fnM name qual params fb scope clos ((mg "__name__").getD .none) c' ctv), toks := tk }) :
    wpAny M A (makeFunction name qual params fb scope env [] [] [] pos firstLine) Q E s := by
  obtain ⟨bm, ob, hbm, hne0, _, hneP, hbo, hcls, hdict, hdata⟩ := hb
  refine mf_pre ?_
  unfold makeTail
  rw [hcl, hge0]
  refine wpAny_bind (wpAny_pure ?_)
  cases clos with
  | nil =>
    refine wp_iteT rfl (wpAny_bind (wpAny_pure ?_))
    refine wpAny_bind (wpAny_functionCode_hit hcode (C.code hP ht) hf ?_)
    refine wpAny_bind (wpAny_builtinsFor hg hbm hne0 hbo hcls hdict hdata ?_)
    refine wpAny_bind (wpAny_nsGet hg ?_)
    cases fb with
    | stmts b =>
      have hd : docOf b = none := Option.isNone_iff_eq_none.mp hdoc
      exact wpAny_bind (wp_doc hd (wpAny_newObj_type (h .none s.heap s.toks (fun _ _ e => e) (Nat.le_refl _)) (by size_fits)))
    | expr e => exact wpAny_bind (wpAny_pure (wpAny_newObj_type (h .none s.heap s.toks (fun _ _ e => e) (Nat.le_refl _)) (by size_fits)))
  | cons q r =>
    refine wp_ite rfl (wpAny_bind (wpAny_newTextTuple ?_))
    refine wpAny_bind (wpAny_functionCode_hit hcode ((C.keeps fun b o e => Heap.get?_push_of_some _ e).code (Heap.get?_push_of_some _ hP) ht) hf ?_)
    refine wpAny_bind (wpAny_builtinsFor (hg.push _) hbm hne0 (Heap.get?_push_of_some _ hbo) hcls hdict hdata ?_)
    refine wpAny_bind (wpAny_nsGet (hg.push _) ?_)
    cases fb with
    | stmts b =>
      have hd : docOf b = none := Option.isNone_iff_eq_none.mp hdoc
      exact wpAny_bind (wp_doc hd (wpAny_newObj_type (h _ _ s.toks (fun b o e => Heap.get?_push_of_some _ e) (by rw [Heap.size_push]; (first | lia | omega))) (by size_fits)))
    | expr e => exact wpAny_bind (wpAny_pure (wpAny_newObj_type (h _ _ s.toks (fun b o e => Heap.get?_push_of_some _ e) (by rw [Heap.size_push]; (first | lia | omega))) (by size_fits)))
end
section
variable {c : GC} {A : Around} {env : Env} {r : Rec} {g : FB} {own own' : Led} {L a P cc : Addr} {loc loc' : Loc} {h : Heap} {x x' : OC} {pos : Pos} {name qual : Str} {params : Arguments} {fb : FuncBody} {scope : Scope} {clos : List (Str × Addr)} {fl : Nat} {E : Value → Heap → Prop}
theorem St.re (D : St c r g own L loc h) (U : Up a x x' own own') (w : ∀ o, x.is g o → x'.is g o) : St c r g own' L loc h := by
  obtain ⟨⟨o, e, i⟩, _⟩ := D.ow _ U.mem
  exact D.upK U (fun _ _ _ e => e) e (w o i)
theorem Wp_makeFn {Q : Value → Heap → Prop} (D : St c r g own L loc h) (F : Fn env L) (hcode : env.code = .ref cc) (C : CodeHd c.b cc P) (hm : (P, OC.tab pos qual) ∈ own) (hcl : closureFor scope env = pure clos) (hdoc : noDoc fb = true)
    (k : ∀ f c' ctv g' h', St c r g' own L loc h' → Sub g g' → g' f = some (fnM name qual params fb scope clos ((c.mg "__name__").getD .none) c' ctv) → CodeK g' c' qual → r.h.get? f = none → Q (.ref f) h') :
    Wp c A (makeFunction name qual params fb scope env [] [] [] pos fl) Q E h := ⟨fun s hs hr => by
  subst hs
  have T := c.T
  obtain ⟨⟨oP, eP, iP⟩, gP⟩ := D.ow _ hm
  have cbk : ∀ a o, c.b.get? a = some o → s.heap.get? a = some o := fun a o e => D.gh _ _ (D.cb _ _ e)
  have cbP : c.b.get? P = none := by
    cases q : c.b.get? P with
    | none => rfl
    | some o => have := D.cb _ _ q; rw [gP] at this; cases this
  have hgs := T.g.keeps cbk
  have hgP : mainGlobals ≠ P := fun q => by
    obtain ⟨o, es, ep, e, _⟩ := T.g
    rw [q, cbP] at e; cases e
  obtain ⟨bm, ob, b1, b2, b3, b4, b5, b6⟩ := T.bmain
  have hbP : bm ≠ P := fun q => by rw [q, cbP] at b3; cases b3
  have hbG : bm ≠ mainGlobals := fun q => by
    obtain ⟨o, es, ep, e, hd, _⟩ := T.g
    rw [q, e] at b3; cases b3; rw [hd] at b6; cases b6
  have hB : s.heap.BuiltinsAt c.mg P := ⟨bm, ob, b1, b2, hbG, hbP, cbk _ _ b3, b4, b5, b6⟩
  obtain ⟨g₀, s₀, iP⟩ := iP
  have aL := D.ns.live
  have nk : ∀ b, s.heap.get? b = none → b ∉ own.map (·.1) ∧ b ≠ L := by
    intro b hb
    refine ⟨fun q => ?_, fun q => ?_⟩
    · obtain ⟨p, hp, rfl⟩ := List.mem_map.mp q
      obtain ⟨⟨o, e, _⟩, _⟩ := D.ow p hp
      rw [hb] at e; cases e
    · obtain ⟨o, e⟩ := aL
      rw [← q, hb] at e; cases e
  rcases iP with rfl | ⟨c₁, rfl, K⟩
  · refine makeAny_K (mg := c.mg) hcl F.g hgs hcode (C.keeps cbk) eP (by trivial) rfl hgP hB hdoc fun c' ctv h' tk hx hge hlt hrec htb => ⟨?_, hr⟩
    obtain ⟨c₂, oc, vs, t, e2, hoc, hd, hv⟩ := hrec
    cases e2
    have hcn : s.heap.get? c' = none := Heap.get?_none_of_le hge
    obtain ⟨pre, post, e1⟩ := List.append_of_mem hm
    let x₁ : OC := .gp fun _ o => o = tabObj #[rawInt pos.line, rawInt pos.col, .ref c']
    have U₁ : Up P (OC.tab pos qual) x₁ own (pre ++ (P, x₁) :: post) := by
      rw [e1]
      exact Up.app .head
    have D₁ : St c r g (pre ++ (P, x₁) :: post) L loc h' := D.upK U₁ (fun b o hb e => hx b o hb e) htb ⟨g, .rfl, by simp⟩
    have kk : (pre ++ (P, x₁) :: post).map (·.1) = own.map (·.1) := U₁.keys
    have D₂ := D₁.add (x := .ex oc) hoc rfl (FB.none_of D.gh hcn) (by rw [kk]; exact (nk _ hcn).1) (nk _ hcn).2 (D.none_of hcn)
    obtain ⟨o₃, i₃, D₃, s₃, e₃⟩ := D₂.freeze (.take .all) (D.none_of hcn)
    have i₃ : o₃ = oc := i₃
    subst i₃
    have hfn : s.heap.get? h'.objs.size = none := by
      cases q : s.heap.get? h'.objs.size with
      | none => rfl
      | some o =>
        have := Heap.lt_size q
        exact absurd (Nat.lt_trans (Nat.lt_of_lt_of_le this hge) hlt) (Nat.lt_irrefl _)
    have D₄ := D₃.push (o := fnM name qual params fb scope clos ((c.mg "__name__").getD .none) c' ctv) (x := .ex _) rfl rfl
    obtain ⟨o₅, i₅, D₅, s₅, e₅⟩ := D₄.freeze (.take .all) (D.none_of hfn)
    have i₅ : o₅ = fnM name qual params fb scope clos ((c.mg "__name__").getD .none) c' ctv := i₅
    subst i₅
    have K : CodeK _ c' qual := ⟨o₃, vs, t, s₅ _ _ e₃, hd, hv⟩
    have D₆ : St c r _ own L loc _ := D₅.re (x := x₁) (x' := OC.tab pos qual) (own' := own) (by rw [e1]; exact Up.app .head) (fun o i => by obtain ⟨g₁, s₁, i⟩ := (i : ∃ g₀, Sub g₀ _ ∧ _); exact ⟨_, .rfl, .inr ⟨c', i, K⟩⟩)
    exact k _ c' ctv _ _ D₆ (s₃.trans s₅) e₅ K (D.none_of hfn)
  · refine makeAny_hit (mg := c.mg) (c' := c₁) hcl F.g hgs hcode (C.keeps cbk) eP ?_ ?_ hB hdoc fun ctv h' tk hk hge => ⟨?_, hr⟩
    · trivial
    · simp [codeAmong, rawInt]
    have hfn : s.heap.get? h'.objs.size = none := Heap.get?_none_of_le hge
    have D₁ := D.grow (.heap D.gh hk)
    have D₄ := D₁.push (o := fnM name qual params fb scope clos ((c.mg "__name__").getD .none) c₁ ctv) (x := .ex _) rfl rfl
    obtain ⟨o₅, i₅, D₅, s₅, e₅⟩ := D₄.freeze (.take .all) (D.none_of hfn)
    have i₅ : o₅ = fnM name qual params fb scope clos ((c.mg "__name__").getD .none) c₁ ctv := i₅
    subst i₅
    exact k _ c₁ ctv _ _ D₅ s₅ e₅ ((K.mono s₀).mono s₅) (D.none_of hfn)⟩
end
inductive CellsL (g : FB) (cm : Str → Option Value) : List (Str × Addr) → Led → Prop
  | nil : CellsL g cm [] []
  | none {n : Str} {c : Addr} {cs : List (Str × Addr)} {l : Led} : cm n = none → CellsL g cm cs l → CellsL g cm ((n, c) :: cs) ((c, .cell none) :: l)
  | some {n : Str} {c : Addr} {cs : List (Str × Addr)} {l : Led} {v : Value} {d : Dt} : cm n = some v → Den g v d → CellsL g cm cs l → CellsL g cm ((n, c) :: cs) ((c, .cell (some d)) :: l)
theorem CellsL.keys {g : FB} {cm : Str → Option Value} {cs : List (Str × Addr)} {l : Led} (x : CellsL g cm cs l) : l.map (·.1) = cs.map (·.2) := by
  induction x with
  | nil => rfl
  | none _ _ ih => simp [ih]
  | some _ _ _ ih => simp [ih]
theorem CellsL.get {g : FB} {cm : Str → Option Value} {cs : List (Str × Addr)} {l : Led} (x : CellsL g cm cs l) : ∀ p ∈ l, ∃ n, (n, p.1) ∈ cs ∧ ∀ o : Obj, o.data = .cell (cm n) → p.2.is g o := by
  induction x with
  | nil => intro p hp; cases hp
  | none e _ ih =>
    intro p hp
    rcases List.mem_cons.mp hp with rfl | hp
    · exact ⟨_, .head _, fun o ho => by rw [e] at ho; exact ho⟩
    · obtain ⟨n, hn, k⟩ := ih p hp; exact ⟨n, .tail _ hn, k⟩
  | some e d _ ih =>
    intro p hp
    rcases List.mem_cons.mp hp with rfl | hp
    · exact ⟨_, .head _, fun o ho => by rw [e] at ho; exact ⟨_, ho, d⟩⟩
    · obtain ⟨n, hn, k⟩ := ih p hp; exact ⟨n, .tail _ hn, k⟩
section
variable {c : GC} {A : Around} {g : FB} {mu : Led} {h : Heap} {R : Result → Heap → Prop} {f : Addr} {args : Args} {binds : List (Str × Value)} {bd : Loc}
  {name qual : Str} {params : Arguments} {body : List Stmt} {scope : Scope} {cl : List (Str × Addr)} {dV kV doc pm cdv ct oc : Value} {an od : Option Addr} {osl : Array (Option Value)} {fo : Obj}
noncomputable abbrev envC (qual : Str) (scope : Scope) (f : Addr) (cdv : Value) (L : Addr) : Env := envX qual scope L f cdv (cellsFrom (L + 1) scope.names [])
theorem enterC (led : Addr → Led) (P : Pre c g mu h)
    (ho : (hd.heap_1 c.w.params).lookup f = some ⟨oc, od, .func (fnX name qual params body scope [] dV kV doc pm an cdv ct), osl⟩)
    (hcd : codeIn (hd.heap_1 c.w.params) cdv qual = true) {dd uu : Nat} (hroom : Rm A (dd + 1) (uu + 3))
    (hbind : ∀ s : Shared, s.heap = h → BindsTo s (fnX name qual params body scope [] dV kV doc pm an cdv ct) args binds)
    (hkind : ∀ n, ∀ x ∈ binds, scope.names.lookup x.1 = some .local ∨ (scope.names.lookup x.1 = some .cell ∧ ((cellsFrom n scope.names []).lookup x.1).isSome = true))
    (hnd : ((cellsFrom 0 scope.names []).map (·.1)).Nodup)
    (hco : scope.isCoroutine = false) (hgen : scope.isGenerator = false) (hk : scope.kind = .function)
    (hled : ∀ L, CellsL g (bindC (envC qual scope f cdv L).kindOf binds fun _ => none) (cellsFrom (L + 1) scope.names []) (led L))
    (hb : ∀ L x d, bd.lookup x = some d → ∃ v, bindL (envC qual scope f cdv L).kindOf binds (fun _ => none) x = some v ∧ Den g v d)
    (k : ∀ L h₁, St c ⟨g, h, mu.map (·.1)⟩ g (led L ++ mu) L bd h₁ → Fn (envC qual scope f cdv L) L → Rm (A.deeper (envC qual scope f cdv L)) dd uu → Wp c (A.deeper (envC qual scope f cdv L)) (execs body (envC qual scope f cdv L)) (fun fl h' => R (.ok (.ret (match fl with | .ret v => v | _ => .none))) h') NoE h₁) :
    Cd c A (.call (.ref f) args) R h := ⟨fun s hs hr => by
  subst hs
  have hcd' := codeRec_of (c.X.keeps P.bas.keep) hcd
  refine codeAny_call_function (Nat.lt_of_le_of_lt (Nat.le_add_right _ _) hroom.d) (P.bas.keep _ _ (c.X _ _ ho)) rfl hco hgen rfl hcd' (hbind s rfl _ _ _ _ ?_)
  refine wpAny_newFunctionEnv_cells hk (hkind _) fun env' he s' x => ?_
  subst he
  refine ⟨(c.T.nolimit.keeps P.bas.keep).keeps x.toInCall.keep, codeAny_func ?_⟩
  obtain ⟨h₁, tk, rfl, _⟩ := x.done
  have hk₁ : ∀ b o, s.heap.get? b = some o → h₁.get? b = some o := x.toInCall.keep
  have hL : s.heap.get? s.heap.objs.size = none := Heap.get?_push_self_none _
  have CL := hled s.heap.objs.size
  have key : ∀ p ∈ led s.heap.objs.size, s.heap.objs.size < p.1 := fun p hp => by
    obtain ⟨n, hn, _⟩ := CL.get p hp
    exact x.above n p.1 hn
  have fresh : ∀ b, s.heap.objs.size < b → s.heap.get? b = none := fun b hb => Heap.get?_none_of_le (Nat.le_of_lt hb)
  have cnd : ((cellsFrom (s.heap.objs.size + 1) scope.names []).map (·.1)).Nodup := (cellsFrom_names scope.names 0 (s.heap.objs.size + 1) [] [] rfl) ▸ hnd
  have D : St c ⟨g, s.heap, mu.map (·.1)⟩ g (led s.heap.objs.size ++ mu) s.heap.objs.size bd h₁ := by
    refine ⟨⟨fun a o e => hk₁ _ _ (P.gh _ _ e), fun p hp => ?_, ?_, .rfl, fun _ _ e => .inl e, fun a o _ e => hk₁ _ _ e, fun p hp => ?_, .of hk₁⟩, P.cb, ⟨_, x.toInCall.ns, fun y d e => hb _ y d e⟩, FB.none_of P.gh hL, fun p hp e => ?_, hL⟩
    · rcases List.mem_append.mp hp with hp | hp
      · obtain ⟨n, hn, i⟩ := CL.get p hp
        obtain ⟨o, e, q⟩ := x.cell n p.1 (lookup_of_mem_nodup cnd hn)
        exact ⟨⟨o, e, i o q⟩, FB.none_of P.gh (fresh _ (key p hp))⟩
      · obtain ⟨⟨o, e, i⟩, n⟩ := P.ow p hp
        exact ⟨⟨o, hk₁ _ _ e, i⟩, n⟩
    · rw [List.map_append]
      refine List.nodup_append.mpr ⟨?_, P.nd, fun a ha b hb e => ?_⟩
      · rw [CL.keys]
        exact List.pairwise_map.mpr x.apart
      · obtain ⟨p, hp, rfl⟩ := List.mem_map.mp ha
        obtain ⟨q, hq, rfl⟩ := List.mem_map.mp hb
        obtain ⟨⟨o, eo, _⟩, _⟩ := P.ow q hq
        rw [← e, fresh _ (key p hp)] at eo; cases eo
    · rcases List.mem_append.mp hp with hp | hp
      · exact .inr (fresh _ (key p hp))
      · exact .inl (List.mem_map_of_mem hp)
    · rcases List.mem_append.mp hp with hp | hp
      · exact absurd (key p hp) (by rw [e]; exact Nat.lt_irrefl _)
      · obtain ⟨⟨o, e', i⟩, n⟩ := P.ow p hp
        rw [e, hL] at e'; cases e'
  exact wpAny_mono ((k _ _ D ⟨hk, rfl, rfl, rfl⟩ (hroom.deeper _)).run _ rfl hr) (fun _ _ y => y) fun _ _ y => y.1.elim⟩
theorem enterI {c' : Addr} (P : Pre c g mu h) (ho : g f = some (fnM name qual params (.stmts body) scope cl pm c' ct)) (K : CodeK g c' qual) {dd uu : Nat} (hroom : Rm A (dd + 1) (uu + 3))
    (hbind : ∀ s : Shared, s.heap = h → BindsTo s (fnX name qual params body scope cl .none .none .none pm .none (.ref c') ct) args binds) (hloc : ∀ y ∈ binds, scope.names.lookup y.1 = some .local)
    (hcell : ∀ x ∈ scope.names, x.2 ≠ .cell) (hco : scope.isCoroutine = false) (hgen : scope.isGenerator = false) (hk : scope.kind = .function)
    (hb : ∀ x d, bd.lookup x = some d → ∃ v, binds.reverse.lookup x = some v ∧ Den g v d)
    (k : ∀ L h₁, St c ⟨g, h, mu.map (·.1)⟩ g mu L bd h₁ → Fn (envX qual scope L f (.ref c') cl) L → Rm (A.deeper (envX qual scope L f (.ref c') cl)) dd uu → Wp c (A.deeper (envX qual scope L f (.ref c') cl)) (execs body (envX qual scope L f (.ref c') cl)) (fun fl h' => R (.ok (.ret (match fl with | .ret v => v | _ => .none))) h') NoE h₁) :
    Cd c A (.call (.ref f) args) R h := by
  obtain ⟨oc, vs, t, e, hd, hv⟩ := K
  exact enterG (dV := .none) (kV := .none) (doc := .none) (an := .none) P (P.gh _ _ ho) rfl ⟨c', oc, vs, t, rfl, P.gh _ _ e, hd, hv⟩ hroom hbind hloc hcell hco hgen hk hb k
end
section
variable {c : GC} {A : Around} {env : Env} {r : Rec} {g : FB} {own own' : Led} {L a P cc : Addr} {loc loc' : Loc} {h : Heap} {x x' : OC} {pos : Pos} {name qual : Str} {params : Arguments} {body : List Stmt} {scope : Scope} {clos : List (Str × Addr)} {fl : Nat} {E : Value → Heap → Prop} {Q : Flow → Heap → Prop} {rest : List Stmt}
theorem sDefC {ow : Addr → Led} {d₀ : Option Dt} (D : St c r g own L loc h) (F : Fn env L) (hcode : env.code = .ref cc) (C : CodeHd c.b cc P) (hm : (P, OC.tab pos (qualnameIn env name name)) ∈ own) (hcl : closureFor scope env = pure clos) (hdoc : noDoc (.stmts body) = true)
    (hd0 : params.defaults = []) (hk0 : params.kw_defaults = []) (ha : annTrees params none env = []) (hx : env.kindOf name = some .cell) (hc : env.cells.lookup name = some a) (U : ∀ f, Up a (.cell d₀) (.cell (some (.ref f))) own (ow f))
    (k : ∀ f c' ctv g' h', St c r g' (ow f) L loc h' → Sub g g' → g' f = some (fnM name (qualnameIn env name name) params (.stmts body) scope clos ((c.mg "__name__").getD .none) c' ctv) → CodeK g' c' (qualnameIn env name name) → r.h.get? f = none → Wp c A (execs rest env) Q E h') :
    Wp c A (execs (.FunctionDef name params body [] none [] scope none name pos :: rest) env) Q E h := by
  have W : Wp c A (makeFunction name (qualnameIn env name name) params (.stmts body) scope env [] [] [] pos pos.line) (fun v h₁ => Wp c A (storeName env name v) (fun _ h₂ => Wp c A (execs rest env) Q E h₂) E h₁) E h :=
    Wp_makeFn D F hcode C hm hcl hdoc fun f c' ctv g' h' D' s e K hn => Wp_storeC D' (.ref f) F hx hc (U f) fun h'' D'' => k f c' ctv g' h'' D'' s e K hn
  exact sCons ⟨fun s hs hr => nestDef_K hd0 hk0 ha (W.wpAny_of hs hr fun v s₁ y r₁ => y.wpAny_of rfl r₁ fun _ s₂ y r₂ => ⟨y, r₂⟩)⟩
theorem Wp_Lam {e : Expr} {Q : Value → Heap → Prop} (D : St c r g own L loc h) (F : Fn env L) (hcode : env.code = .ref cc) (C : CodeHd c.b cc P) (hm : (P, OC.tab pos (env.qual ++ "<lambda>")) ∈ own) (hcl : closureFor scope env = pure clos) (hdf : defaultsOf params env = ([], []))
    (k : ∀ f c' ctv g' h', St c r g' own L loc h' → Sub g g' → g' f = some (fnM "<lambda>" (env.qual ++ "<lambda>") params (.expr e) scope clos ((c.mg "__name__").getD .none) c' ctv) → CodeK g' c' (env.qual ++ "<lambda>") → r.h.get? f = none → Q (.ref f) h') :
    Wp c A (eval (.Lambda params e scope pos) env) Q E h := by
  have W := Wp_makeFn (A := A) (E := E) (fb := .expr e) (name := "<lambda>") (params := params) (fl := pos.line) (Q := Q) D F hcode C hm hcl rfl k
  refine Wp_eq (show _ = (do
    let (d, kd) := defaultsOf params env
    let dv ← evalAll d
    let kdv ← holding dv (evalAllOpt kd)
    makeFunction "<lambda>" (env.qual ++ "<lambda>") params (.expr e) scope env dv kdv [] pos pos.line) from rfl) ?_
  rw [hdf]
  refine Wp_bind (Wp_pure ?_)
  exact ⟨fun s hs hr => wpAny_bind (wpAny_holding (wpAny_pure (W.run s hs hr)))⟩
end
theorem and_high (x s : Nat) : x &&& (x / 2 ^ s * 2 ^ s) = x / 2 ^ s * 2 ^ s := by
  apply Nat.eq_of_testBit_eq
  intro i
  rw [Nat.testBit_and, Nat.mul_comm, Nat.testBit_two_pow_mul, Nat.testBit_div_two_pow]
  by_cases h : s ≤ i
  · simp [h, Nat.sub_add_cancel h, Nat.add_sub_cancel' h]
  · simp [h]
theorem xor_low (x s : Nat) : Builtin.bitXor (x : Int) ((x / 2 ^ s * 2 ^ s : Nat) : Int) = ((x % 2 ^ s : Nat) : Int) := by
  rw [bitXor_and, bitAnd_pp (by (first | lia | omega)) (by (first | lia | omega)), Int.toNat_natCast, Int.toNat_natCast, and_high]
  have := Nat.div_add_mod x (2 ^ s)
  rw [Nat.mul_comm] at this
  (first | lia | omega)
theorem and_63 (x : Nat) : Builtin.bitAnd (x : Int) 63 = ((x % 64 : Nat) : Int) := by
  rw [bitAnd_pp (by (first | lia | omega)) (by (first | lia | omega)), Int.toNat_natCast]
  have := Nat.and_two_pow_sub_one_eq_mod x 6
  congr 1
theorem and_64 (x : Nat) : Builtin.bitAnd (x : Int) 64 = ((x / 64 % 2 * 64 : Nat) : Int) := by
  rw [bitAnd_pp (by (first | lia | omega)) (by (first | lia | omega)), Int.toNat_natCast]
  congr 1
  show x &&& 64 = _
  apply Nat.eq_of_testBit_eq
  intro i
  have e : (64 : Nat) = 2 ^ 6 := by decide
  rw [Nat.testBit_and, e, Nat.testBit_two_pow, Nat.mul_comm, Nat.testBit_two_pow_mul]
  by_cases h : i = 6
  · subst h
    simp [Nat.testBit, Nat.shiftRight_eq_div_pow]
  · have h' : ¬ 6 = i := fun q => h q.symm
    by_cases h2 : 6 ≤ i
    · have : x / 2 ^ 6 % 2 < 2 ^ (i - 6) := by
        have h3 : i - 6 = (i - 7) + 1 := by (first | lia | omega)
        rw [h3, Nat.pow_succ]
        have := Nat.mod_lt (x / 2 ^ 6) (y := 2) (by decide)
        have := Nat.pos_of_ne_zero (show 2 ^ (i - 7) ≠ 0 by simp)
        (first | lia | omega)
      rw [Nat.testBit_lt_two_pow this]
      simp [h']
    · simp [h', h2]
theorem or_low (v y : Nat) (h : y < 64) : Builtin.bitOr ((v * 64 : Nat) : Int) (y : Int) = ((v * 64 + y : Nat) : Int) := by
  have e : v * 64 &&& y = 0 := by
    apply Nat.eq_of_testBit_eq
    intro i
    rw [Nat.testBit_and, Nat.zero_testBit, Nat.mul_comm, show (64 : Nat) = 2 ^ 6 by decide, Nat.testBit_two_pow_mul]
    by_cases h2 : 6 ≤ i
    · have : y < 2 ^ i := Nat.lt_of_lt_of_le h (Nat.pow_le_pow_right (n := 2) (by (first | lia | omega)) h2 : 2 ^ 6 ≤ 2 ^ i)
      rw [Nat.testBit_lt_two_pow this]; simp
    · simp [h2]
  rw [bitOr_and, bitAnd_pp (by (first | lia | omega)) (by (first | lia | omega)), Int.toNat_natCast, Int.toNat_natCast, e]
  (first | lia | omega)
section
variable {c : GC} {A : Around} {env : Env} {g : FB} {h : Heap} {pos apos p : Pos} {es : List Expr} {x : Str} {ds : List Dt} {E : Value → Heap → Prop} {f : Addr} {fo : Obj} {fd : FuncData}
  {r : Rec} {own own' mu rest' : Led} {L a : Addr} {loc : Loc}
theorem Wp_CallI {Q : Value → Heap → Prop} {ks : List Addr} {Post : FB → Value → Led → Prop} (D : St c r g own L loc h) (hf : EvD c A env (.Name x p) g h (.ref f)) (ho : g f = some fo) (hd' : fo.data = .func fd)
    (a : EvA c A env pos es g h ds) (hne : ∃ x r, backTo pos (starEach es env) = (false, x) :: r) (S : Sel own mu rest') (hk : ∀ k ∈ ks, k ∈ mu.map (·.1))
    (spec : ∀ vs g₁ h₁, Pre c g₁ mu h₁ → Dens g₁ vs ds → Sub g g₁ → Cd c A (.call (.ref f) ⟨vs, []⟩) (fun r h' => ∃ v g' own', r = .ok (.ret v) ∧ Ret ⟨g₁, h₁, ks⟩ g' own' h' ∧ Post g' v own') h₁)
    (k : ∀ v g' own' h', St c r g' (own' ++ rest') L loc h' → Sub g g' → Post g' v own' → Q v h') : Wp c A (eval (.Call (.Name x p) es [] pos) env) Q E h :=
  Wp_Call (hf.imp fun v _ _ _ z => z.ref_inv) D.gr fun g₁ h₁ G₁ => Wp_callF hd' hne ((a.up G₁).wp (D.grow G₁) fun vs g₂ h₂ D₂ G₂ dv => ⟨D₂.gh _ _ (G₂.sub _ _ (G₁.sub _ _ ho)),
    (spec vs g₂ h₂ (D₂.preSel S) dv (G₁.trans G₂).sub).mono fun r' h' ⟨v, g', own', e, R, P⟩ => by
      subst e
      exact k v g' own' h' (D₂.after S hk R) ((G₁.trans G₂).sub.trans R.g0) P⟩)
end
noncomputable def digs (n : Nat) : Nat → Nat → List Int
  | 0, _ => []
  | k + 1, x => ((x % 2 ^ n : Nat) : Int) :: digs n k (x / 2 ^ n)
theorem digs_len (n : Nat) : ∀ k x, (digs n k x).length = k
  | 0, _ => rfl
  | k + 1, x => by rw [digs, List.length_cons, digs_len n k]
theorem digs_app (n j : Nat) : ∀ i x, digs n (i + j) x = digs n i x ++ digs n j (x / 2 ^ (n * i))
  | 0, x => by simp [digs]
  | i + 1, x => by
    rw [show i + 1 + j = (i + j) + 1 by (first | lia | omega), digs, digs, digs_app n j i, List.cons_append, Nat.div_div_eq_div_mul, ← Nat.pow_add, show n + n * i = n * (i + 1) by rw [Nat.mul_succ]; (first | lia | omega)]
theorem digs_mod (n : Nat) : ∀ i x, digs n i (x % 2 ^ (n * i)) = digs n i x
  | 0, x => rfl
  | i + 1, x => by
    rw [digs, digs]
    have e1 : x % 2 ^ (n * (i + 1)) % 2 ^ n = x % 2 ^ n := Nat.mod_mod_of_dvd x (Nat.pow_dvd_pow 2 (by rw [Nat.mul_succ]; (first | lia | omega)))
    have e2 : x % 2 ^ (n * (i + 1)) / 2 ^ n = x / 2 ^ n % 2 ^ (n * i) := by
      rw [show n * (i + 1) = n + n * i by rw [Nat.mul_succ]; (first | lia | omega), Nat.pow_add, Nat.mod_mul_right_div_self]
    rw [e1, e2, digs_mod n i]
section
variable {c : GC} {A : Around} {env : Env} {g : FB} {h : Heap} {pos apos p : Pos} {es : List Expr} {x : Str} {ds : List Dt} {E : Value → Heap → Prop} {f : Addr} {fo : Obj} {fd : FuncData}
theorem bLst {x : Expr} (p : EvL c A env x g h ds) (hf : ds.length < 2 ^ 62) (he : isTrue x env (eval x env) = (do let v ← eval x env; standAt x.pos; holding [v] (truthy v))) : EvB c A env x g h (!ds.isEmpty) :=
  .eq he (p.bind fun v g₁ h₁ G ⟨a, e, vs, n, eo, k⟩ => .stand (Ev.hold (by
    subst e
    exact .of fun g₂ s G₂ Q E q => by
      have hl : s.heap.IsList a vs.toArray := ⟨_, G₂.kp _ _ eo, rfl, n, rfl⟩
      have e1 : (!ds.isEmpty) = !vs.toArray.isEmpty := by
        have := k.length
        cases vs <;> cases ds <;> simp at this ⊢
      exact wpAny_truthy_list hl (by simp [k.length]; (first | lia | omega)) (q _ (s.toks + 1 + 1) e1.symm))))
theorem eCallI {P : FB → Heap → Value → Prop} (hf : EvD c A env (.Name x p) g h (.ref f)) (ho : g f = some fo) (hd' : fo.data = .func fd)
    (a : EvA c A env pos es g h ds) (hne : ∃ x r, backTo pos (starEach es env) = (false, x) :: r)
    (k : ∀ vs g' h', Gr g h g' h' → Dens g' vs ds → Cd c A (.call (.ref f) ⟨vs, []⟩) (fun r h'' => ∃ v g'', r = .ok (.ret v) ∧ Gr g' h' g'' h'' ∧ P g'' h'' v) h') : Ev c A (eval (.Call (.Name x p) es [] pos) env) g h P :=
  Ev_Call (hf.imp fun v _ _ _ z => z.ref_inv) ⟨fun g₁ h₁ G Q E q => Wp_callF hd' hne (a.go g₁ h₁ G _ _ fun vs g₂ h₂ G₂ z => ⟨G₂.gh _ _ (G₂.sub _ _ (G.sub _ _ ho)), (k vs g₂ h₂ (G.trans G₂) z).mono fun r h' ⟨v, g₃, e, G₃, y⟩ => by
    subst e
    exact q v g₃ h' (G₂.trans G₃) y⟩)⟩
end
noncomputable def und (n : Nat) : List Nat → Nat
  | [] => 0
  | d :: ds => d + 2 ^ n * und n ds
theorem und_app (n : Nat) : ∀ ds es, und n (ds ++ es) = und n ds + 2 ^ (n * ds.length) * und n es
  | [], es => by simp [und]
  | d :: ds, es => by
    rw [List.cons_append, und, und, und_app n ds es, List.length_cons, Nat.mul_add, ← Nat.mul_assoc, ← Nat.pow_add, show n + n * ds.length = n * (ds.length + 1) by rw [Nat.mul_succ]; (first | lia | omega)]
    (first | lia | omega)
theorem und_sub (n : Nat) (ds : List Nat) (l k : Nat) : und n ((ds.drop l).take k) ≤ und n ds := by
  have h1 : und n ((ds.drop l).take k) ≤ und n (ds.drop l) := by
    have e := und_app n ((ds.drop l).take k) ((ds.drop l).drop k)
    rw [List.take_append_drop] at e
    (first | lia | omega)
  have h2 : und n (ds.drop l) ≤ und n ds := by
    have e := und_app n (ds.take l) (ds.drop l)
    rw [List.take_append_drop] at e
    have := Nat.le_mul_of_pos_left (und n (ds.drop l)) (Nat.pos_of_ne_zero (show 2 ^ (n * (ds.take l).length) ≠ 0 by simp))
    (first | lia | omega)
  (first | lia | omega)
noncomputable abbrev nats (ds : List Nat) : List Dt := ds.map fun (d : Nat) => Dt.int d
theorem nats_at {ds : List Nat} {k : Nat} (h : k < ds.length) : (nats ds)[k]? = some (.int (ds.getD k 0 : Nat)) := by
  rw [List.getElem?_map, List.getElem?_eq_getElem h, List.getD_eq_getElem?_getD, List.getElem?_eq_getElem h]; rfl
section
variable {c : GC} {A : Around} {env : Env} {g : FB} {h : Heap} {pos p : Pos} {es : List Expr} {x : Str} {i j : Int} {r : Rec} {own own' : Led} {L a : Addr} {loc : Loc} {ds : List Dt}
theorem eDivmod (hf : Ev c A (eval (.Name x p) env) g h fun _ _ v => v = .builtin "divmod") (a : EvA c A env pos es g h [.int i, .int j]) (hb : j ≠ 0) (hp' : Builtin.divisionGoesByPylong i j = false)
    (hp : (backTo pos (starEach es env)).any (·.1) = false) (hne : ∃ x r, backTo pos (starEach es env) = (false, x) :: r) : EvD c A env (.Call (.Name x p) es [] pos) g h (.tup [.int (i.fdiv j), .int (i.fmod j)]) :=
  eCallB hf a (fun vs g' h' G z => by
    obtain ⟨t, u, rfl⟩ := z.i2
    refine .ofG fun g₁ s G₁ Q E q => ?_
    obtain ⟨G₂, e⟩ := Gr.put (o := tupOf [.int (i.fdiv j) s.toks, .int (i.fmod j) (s.toks + 1)] 0) G₁.gh rfl
    exact divmod_int hb (q _ _ (s.toks + 1 + 1) _ G₂ (.tup e (.cons (.int _ _) (.cons (.int _ _) .nil)))) (.inl hp')) hp (.inr hne)
theorem St.freezeL (D : St c r g own L loc h) (S : Sel own [(a, .lst ds)] own') (ha : r.h.get? a = none) (hl : loc.lookup x = some (.ref a)) : ∃ g', St c r g' own' L ((x, .lst ds) :: loc) h ∧ Sub g g' := by
  obtain ⟨o, ⟨vs, n, rfl, kv⟩, D', s, e⟩ := D.freeze S ha
  refine ⟨_, ⟨D'.toRet, D'.cb, ?_, D'.gL, D'.oL, D'.Lr⟩, s⟩
  obtain ⟨m, n', k⟩ := D'.ns
  refine ⟨m, n', fun y d q => ?_⟩
  rw [List.lookup_cons] at q
  by_cases z : y = x
  · subst z
    simp at q; subst q
    obtain ⟨v, e1, e2⟩ := k y _ hl
    cases e2.ref_inv
    exact ⟨_, e1, .lst e (kv.mono s)⟩
  · have z' : (y == x) = false := beq_eq_false_iff_ne.mpr z
    rw [z'] at q
    exact k y d q
variable {E : Value → Heap → Prop} {Q : Flow → Heap → Prop} {rest : List Stmt} {o : Expr} {apos pos' : Pos}
theorem sReverse (D : St c r g own L loc h) (po : EvD c A env o g h (.ref a)) (U : Up a (.lst ds) (.lst ds.reverse) own own') (hsz : ds.length ≤ sizeLine)
    (hi : interactive env = false) (hs : swapsWith (.Call (.Attribute o "reverse" apos) [] [] pos) none pos'.line env = pure false) (hbase : attributeBase o "reverse" env (eval o env) = eval o env) (hline : (apos.endLine == pos.line) = true)
    (k : ∀ g' h', St c r g' own' L loc h' → Sub g g' → Wp c A (execs rest env) Q E h') : Wp c A (execs (.Expr (.Call (.Attribute o "reverse" apos) [] [] pos) pos' :: rest) env) Q E h := by
  refine sExpr (Wp_meth PySem.F.plainAttrs_list PySem.F.slot_list_reverse PySem.F.type_list_reverse (po.wp D fun ov g₁ h₁ D₁ G₁ p => ?_) hbase rfl hline rfl (.inl rfl)) hi hs
  cases p.ref_inv
  exact ⟨D₁.lstType U.mem, Wa_nil (Wp_reverse D₁ U hsz fun h' D' => ⟨rfl, k g₁ h' D' G₁.sub⟩)⟩
theorem sExtend {e : Expr} {es : List Dt} (D : St c r g own L loc h) (po : EvD c A env o g h (.ref a)) (pe : EvL c A env e g h es) (U : Up a (.lst ds) (.lst (ds ++ es)) own own') (hsz : ds.length + es.length ≤ sizeLine)
    (hi : interactive env = false) (hs : swapsWith (.Call (.Attribute o "extend" apos) [e] [] pos) none pos'.line env = pure false) (hbase : attributeBase o "extend" env (eval o env) = eval o env) (hse : starEach [e] env = [(false, eval e env)]) (hline : (apos.endLine == pos.line) = true)
    (k : ∀ g' h', St c r g' own' L loc h' → Sub g g' → Wp c A (execs rest env) Q E h') : Wp c A (execs (.Expr (.Call (.Attribute o "extend" apos) [e] [] pos) pos' :: rest) env) Q E h := by
  have hb : backTo pos (starEach [e] env) = [(false, eval e env)] := by rw [hse]; rfl
  refine sExpr (Wp_meth PySem.F.plainAttrs_list PySem.F.slot_list_extend PySem.F.type_list_extend (po.wp D fun ov g₁ h₁ D₁ G₁ p => ?_) hbase (by rw [hb]; rfl) hline (by rw [hb]; rfl) (.inr ⟨_, _, hb⟩)) hi hs
  cases p.ref_inv
  refine ⟨D₁.lstType U.mem, Wa_cons ((pe.up G₁).wp D₁ fun v g₂ h₂ D₂ G₂ ⟨b, eb, B⟩ => Wa_nil ?_) hse⟩
  subst eb
  exact Wp_extend D₂ B U hsz fun h' D' => ⟨rfl, k g₂ h' D' (G₁.sub.trans G₂.sub)⟩
end
theorem fmod_nat (a b : Nat) : (a : Int).fmod (b : Int) = ((a % b : Nat) : Int) := by
  rw [Int.fmod_eq_emod_of_nonneg _ (by (first | lia | omega))]; rfl
theorem St.freezeK {P : Prop} {c : GC} {r : Rec} {g : FB} {own own' : Led} {L a : Addr} {loc : Loc} {h : Heap} {ds : List Dt} (D : St c r g own L loc h) (S : Sel own [(a, .lst ds)] own') (ha : r.h.get? a = none)
    (k : ∀ g', St c r g' own' L loc h → Sub g g' → Den g' (.ref a) (.lst ds) → P) : P := by
  obtain ⟨o, ⟨vs, n, rfl, kv⟩, D', s, e⟩ := D.freeze S ha
  exact k _ D' s (.lst e (kv.mono s))
section
variable {c : GC} {A : Around} {env : Env} {target : Expr} {r : Rec} {g g₀ : FB} {own pre : Led} {L : Addr} {loc : Loc} {h : Heap} {v it : Value} {ds : List Dt} {E : Value → Heap → Prop} {n : Nat} {item : Nat → Dt} {X : Nat → Led → Heap → Prop}
theorem Wp_hold {α : Type} {vs : List Value} {t : Sem α} {Q : α → Heap → Prop} (x : Wp c A t Q E h) : Wp c A (holding vs t) Q E h := ⟨fun s hs hr => wpAny_holding (x.run s hs hr)⟩
theorem Wp_draw (I : Iter c A target it g₀ X n item) (ht : ∀ v, letOwnedTupleGo target it v = pure ()) : ∀ (m i : Nat) {pre : Led} {g : FB} {loc : Loc} {h : Heap} (R : List Value → Heap → Prop), i + m = n → X i pre h → St c r g (pre ++ own) L loc h → Sub g₀ g →
    (∀ vs pre' g' h', X n pre' h' → St c r g' (pre' ++ own) L loc h' → Sub g g' → Dens g' vs ((List.range' i m).map item) → R vs h') → Wp c A (draw it m) R E h
  | 0, i, pre, g, loc, h, R, hi, x, D, s, k => by
    refine Wp_eq (show _ = pure [] from rfl) (Wp_pure (k [] pre g h (by rw [← hi]; exact x) D .rfl .nil))
  | m + 1, i, pre, g, loc, h, R, hi, x, D, s, k => by
    refine Wp_eq (show _ = (pyNext it >>= fun o => match o with | none => pure [] | some v => do return v :: (← holding [v] (draw it m))) from rfl) (Wp_bind ?_)
    have W := I.step (by (first | lia | omega)) x D s (fun v h₂ => Wp c A (do return v :: (← holding [v] (draw it m))) R E h₂) E fun v pre' g' h' D' s' x' dv =>
      Wp_bind (Wp_hold (Wp_draw I ht m (i + 1) _ (by (first | lia | omega)) x' D' (s.trans s') fun vs pre₂ g₂ h₂ x₂ D₂ s₂ dvs => Wp_pure (k (v :: vs) pre₂ g₂ h₂ x₂ D₂ (s'.trans s₂) (by
        rw [List.range'_succ, List.map_cons]
        exact .cons (dv.mono s₂) dvs))))
    refine W.imp fun o h₁ ⟨v, e, w⟩ => ?_
    subst e
    rw [ht] at w
    exact Wp_eq (pure_bind () fun _ => (do return v :: (← holding [v] (draw it m)) : Sem (List Value))).symm (Wp_bind w)
theorem Wp_unpackG {R : List Value → Heap → Prop} (D : St c r g own L loc h) (hni : Wp c A (notIterableAtAll v) (fun b h' => b = false ∧ h' = h) E h) (ht : ∀ it v, letOwnedTupleGo target it v = pure ()) (src : ∀ Q, Got c A target r g own L loc n item Q → Wp c A (pyIter v) Q E h)
    (k : ∀ vs g' h', St c r g' own L loc h' → Sub g g' → Dens g' vs ((List.range n).map item) → R vs h') : Wp c A (unpackItems v n none) R E h := by
  unfold unpackItems
  refine Wp_bind (hni.imp fun b h' ⟨e1, e2⟩ => ?_)
  subst e1 e2
  rw [if_neg (by simp)]
  refine Wp_bind (Wp_hold (src _ fun it g₁ h₁ pre X g₀ I x D₁ s s₀ hn => ?_))
  show Wp c A (holding [it] (draw it n) >>= fun items => _) R E h₁
  refine Wp_bind (Wp_hold (Wp_draw I (ht it) n 0 _ (by (first | lia | omega)) x D₁ s₀ fun vs pre₂ g₂ h₂ x₂ D₂ s₂ dvs => ?_))
  have hl := dvs.length
  rw [List.length_map, List.length_range'] at hl
  rw [if_neg (by (first | lia | omega))]
  refine Wp_bind (Wp_hold ((I.done x₂ D₂ (s₀.trans s₂) (hn _ _ _ x₂) (fun h' => R vs h') E fun h' D' => k vs g₂ h' D' (s.trans s₂) (by rw [List.range_eq_range']; exact dvs)).imp fun o h₃ ⟨e, q⟩ => ?_))
  subst e
  exact Wp_pure q
theorem getD_all : ∀ ds : List Dt, (List.range ds.length).map (fun i => ds.getD i .none) = ds := by
  intro ds
  apply List.ext_getElem
  · simp
  · intro i h1 h2
    simp [List.getD_eq_getElem?_getD, List.getElem?_eq_getElem h2]
theorem Wp_unpackL {R : List Value → Heap → Prop} (D : St c r g own L loc h) (hh : A.handled = none) (dv : Den g v (.lst ds)) (hn : n = ds.length) (k : ∀ vs g' h', St c r g' own L loc h' → Sub g g' → Dens g' vs ds → R vs h') : Wp c A (unpackItems v n none) R E h := by
  subst hn
  refine Wp_unpackG (target := .Constant .none 0 ⟨0, 0, 0, 0⟩) (item := fun i => ds.getD i .none) D ?_ (fun _ _ => rfl) (fun Q q => itList D hh dv (fun _ _ => rfl) q) fun vs g' h' D' s dvs => k vs g' h' D' s (by rw [getD_all] at dvs; exact dvs)
  obtain ⟨a, vs, m, rfl, eo, kv⟩ := dv.lst_inv
  exact ⟨fun s hs hr => by
    subst hs
    have hl : s.heap.IsList a vs.toArray := ⟨_, D.gh _ _ eo, rfl, m, rfl⟩
    unfold notIterableAtAll
    exact wpAny_bind (wpAny_specialOf hl.typeIs slot_list_iter.lookup (wpAny_pure ⟨⟨rfl, rfl⟩, hr⟩))⟩
variable {x y z : Str} {px py pz tp pos : Pos} {kk : Nat} {d e f : Dt} {Q : Flow → Heap → Prop} {rest : List Stmt} {ve : Expr}
theorem sAsgL3 (D : St c r g own L loc h) (F : Fn env L) (hh : A.handled = none) (p : EvD c A env ve g h (.lst [d, e, f])) (hx : env.kindOf x = some .local) (hy : env.kindOf y = some .local) (hz : env.kindOf z = some .local)
    (hs : swapsWithSole [.Tuple [.Name x px, .Name y py, .Name z pz] kk tp] ve pos.line env = pure false) (hw : swappedStores [.Tuple [.Name x px, .Name y py, .Name z pz] kk tp] ve env = pure none)
    (q : ∀ g' h', St c r g' own L ((z, f) :: (y, e) :: (x, d) :: loc) h' → Sub g g' → Wp c A (execs rest env) Q E h') : Wp c A (execs (.Assign [.Tuple [.Name x px, .Name y py, .Name z pz] kk tp] ve pos :: rest) env) Q E h := by
  refine sAsgTW (p.wp D fun v g₁ h₁ D₁ G₁ dv => ?_) hs hw
  refine Wp_eq (arm_assign_Tuple ..) (Wp_bind ⟨fun s hs hr => wpAny_standAt ⟨?_, hr⟩⟩)
  subst hs
  show Wp c A (holding [v] (unpackItems v 3 none) >>= fun items => assignInOrder [assign (.Name x px) env, assign (.Name y py) env, assign (.Name z pz) env] items) _ E s.heap
  refine Wp_bind (Wp_hold (Wp_unpackL D₁ hh dv rfl fun vs g₂ h₂ D₂ s₂ kv => ?_))
  obtain ⟨v₁, v₂, v₃, rfl, d₁, d₂, d₃⟩ := kv.three_inv
  exact Wp_inOrder (Wp_asgL D₂ d₁ F hx fun h₃ D₃ => Wp_inOrder (Wp_asgL D₃ d₂ F hy fun h₄ D₄ => Wp_inOrder (Wp_asgL D₄ d₃ F hz fun h₅ D₅ => Wp_inOrder0 (q g₂ h₅ D₅ (G₁.sub.trans s₂)))))
end
section
variable {c : GC} {A : Around} {env : Env} {r : Rec} {g : FB} {own own' : Led} {L a : Addr} {loc loc' : Loc} {h : Heap} {d : Dt} {v w : Value} {pos apos pos' : Pos} {E : Value → Heap → Prop} {ds es : List Dt} {o e : Expr} {rest : List Stmt} {Q : Flow → Heap → Prop}
theorem sAppendN {ow : Addr → Led} (D : St c r g own L loc h) (po : EvD c A env o g h (.ref a)) (pe : EvN c A env e g h es) (U : ∀ b, Up a (.lst ds) (.lst (ds ++ [.ref b])) own (ow b)) (hsz : ds.length < sizeLine)
    (hi : interactive env = false) (hs : swapsWith (.Call (.Attribute o "append" apos) [e] [] pos) none pos'.line env = pure false) (hbase : attributeBase o "append" env (eval o env) = eval o env) (hse : starEach [e] env = [(false, eval e env)]) (hline : (apos.endLine == pos.line) = true)
    (k : ∀ b g' h', St c r g' ((b, .lst es) :: ow b) L loc h' → r.h.get? b = none → Sub g g' → Wp c A (execs rest env) Q E h') : Wp c A (execs (.Expr (.Call (.Attribute o "append" apos) [e] [] pos) pos' :: rest) env) Q E h := by
  have hb : backTo pos (starEach [e] env) = [(false, eval e env)] := by rw [hse]; rfl
  refine sExpr (Wp_meth PySem.F.plainAttrs_list PySem.F.slot_list_append PySem.F.type_list_append (po.wp D fun ov g₁ h₁ D₁ G₁ p => ?_) hbase (by rw [hb]; rfl) hline (by rw [hb]; rfl) (.inr ⟨_, _, hb⟩)) hi hs
  cases p.ref_inv
  refine ⟨D₁.lstType (U 0).mem, Wa_cons ((pe.up G₁).wp D₁ fun b g₂ h₂ D₂ hn G₂ => Wa_nil (Wp_append D₂ (.ref b) (.tail (U b)) hsz fun h' D' => ⟨rfl, k b g₂ h' D' (D₁.none_of hn) (G₁.sub.trans G₂.sub)⟩)) hse⟩
end
theorem St.oe {c : GC} {r : Rec} {g : FB} {own own' : Led} {L : Addr} {loc : Loc} {h : Heap} (D : St c r g own L loc h) (e : own = own') : St c r g own' L loc h := e ▸ D
noncomputable def gled (as : List Addr) (gs : List (Int × Int)) : Led := List.zipWith (fun a (p : Int × Int) => (a, OC.lst [.int p.1, .int p.2])) as gs
theorem gled_app {as bs : List Addr} {gs hs : List (Int × Int)} (h : as.length = gs.length) : gled (as ++ bs) (gs ++ hs) = gled as gs ++ gled bs hs := List.zipWith_append h
theorem ints_app (xs ys : List Int) : (xs ++ ys).map Dt.int = xs.map Dt.int ++ ys.map Dt.int := List.map_append
section
variable {c : GC} {A : Around} {env : Env} {r : Rec} {g : FB} {own own' : Led} {L a : Addr} {loc loc' : Loc} {h : Heap} {d : Dt} {v w : Value} {pos apos pos' : Pos} {E : Value → Heap → Prop} {ds ds₀ es : List Dt} {o e le re : Expr} {rest : List Stmt} {Q : Flow → Heap → Prop}
theorem sExtendW (D : St c r g own L loc h) (po : EvD c A env o g h (.ref a)) (hm : (a, .lst ds₀) ∈ own)
    (W : ∀ g₁ h₁, St c r g₁ own L loc h₁ → Sub g g₁ → ∀ Z : Value → Heap → Prop, (∀ b g₂ own₂ own₃ ds es h₂, St c r g₂ own₂ L loc h₂ → Sub g₁ g₂ → LstAt g₂ h₂ b es → Up a (.lst ds) (.lst (ds ++ es)) own₂ own₃ → ds.length + es.length ≤ sizeLine →
      (∀ g₃ h₃, St c r g₃ own₃ L loc h₃ → Sub g₂ g₃ → Wp c A (execs rest env) Q E h₃) → Z (.ref b) h₂) → Wp c A (eval e env) Z E h₁)
    (hi : interactive env = false) (hs : swapsWith (.Call (.Attribute o "extend" apos) [e] [] pos) none pos'.line env = pure false) (hbase : attributeBase o "extend" env (eval o env) = eval o env) (hse : starEach [e] env = [(false, eval e env)]) (hline : (apos.endLine == pos.line) = true) :
    Wp c A (execs (.Expr (.Call (.Attribute o "extend" apos) [e] [] pos) pos' :: rest) env) Q E h := by
  have hb : backTo pos (starEach [e] env) = [(false, eval e env)] := by rw [hse]; rfl
  refine sExpr (Wp_meth PySem.F.plainAttrs_list PySem.F.slot_list_extend PySem.F.type_list_extend (po.wp D fun ov g₁ h₁ D₁ G₁ p => ?_) hbase (by rw [hb]; rfl) hline (by rw [hb]; rfl) (.inr ⟨_, _, hb⟩)) hi hs
  cases p.ref_inv
  exact ⟨D₁.lstType hm, Wa_cons (W g₁ h₁ D₁ G₁.sub _ fun b g₂ own₂ own₃ ds es h₂ D₂ s₂ B U hsz k => Wa_nil (Wp_extend D₂ B U hsz fun h' D' => ⟨rfl, k g₂ h' D' .rfl⟩)) hse⟩
theorem Wp_addW {R : Value → Heap → Prop} (D : St c r g own L loc h) (pl : EvN c A env le g h ds)
    (W : ∀ a g₁ h₁, St c r g₁ ((a, .lst ds) :: own) L loc h₁ → h.get? a = none → Sub g g₁ → ∀ Z : Value → Heap → Prop, (∀ b g₂ es own₂ h₂, St c r g₂ ((b, .lst es) :: (a, .lst ds) :: own₂) L loc h₂ → Sub g₁ g₂ → ds.length + es.length ≤ sizeLine →
      (∀ x g₃ h₃, St c r g₃ ((x, .lst (ds ++ es)) :: own₂) L loc h₃ → h₂.get? x = none → Sub g₂ g₃ → R (.ref x) h₃) → Z (.ref b) h₂) → Wp c A (eval re env) Z E h₁) : Wp c A (eval (.BinOp le .Add re pos) env) R E h := by
  refine Wp_BinOp (pl.wp D fun a g₁ h₁ D₁ hn G₁ => W a g₁ h₁ D₁ hn G₁.sub _ fun b g₂ es own₂ h₂ D₂ s₂ hsz k => ?_)
  refine (ev_addL (c := c) (A := A) (D₂.lstAt (.tail _ (.head _))) (D₂.lstAt (.head _)) hsz g₂ h₂ D₂.gr).go g₂ h₂ D₂.gr R E fun v g₃ h₃ G₃ z => ?_
  obtain ⟨x, rfl, hx, gx, vs, n, eo, kv⟩ := z
  have D₃ := D₂.tail.tail.adopt (x := .lst (ds ++ es)) G₃ hx gx eo ⟨vs, n, rfl, kv⟩
  exact k x g₃ h₃ D₃ hx G₃.sub
end
section
variable {c : GC} {r : Rec} {g : FB} {own own₁ own₂ : Led} {L a b : Addr} {loc : Loc} {h : Heap} {ds es : List Dt}
theorem Dens.snoc {vs : List Value} {d : Dt} (k : Dens g vs (ds ++ [d])) : ∃ ws v, vs = ws ++ [v] ∧ Dens g ws ds ∧ Den g v d := by
  have hl := k.length
  rw [List.length_append] at hl
  have e : vs = vs.take ds.length ++ vs.drop ds.length := (List.take_append_drop _ _).symm
  have k1 := k.take ds.length
  have k2 := k.drop ds.length
  rw [List.take_left] at k1
  rw [List.drop_left] at k2
  obtain ⟨v, ev, dv⟩ := k2.one_inv
  exact ⟨_, v, by rw [← ev]; exact e, k1, dv⟩
theorem St.freezeIn (D : St c r g own L loc h) (S : Sel own [(b, .lst es)] own₁) (U : Up a (.lst (ds ++ [.ref b])) (.lst (ds ++ [.lst es])) own₁ own₂) (hb : r.h.get? b = none) : ∃ g', St c r g' own₂ L loc h ∧ Sub g g' := by
  obtain ⟨o, ⟨vs, n, rfl, kv⟩, D', s, e⟩ := D.freeze S hb
  refine ⟨_, D'.re U fun o ho => ?_, s⟩
  obtain ⟨ws, m, rfl, kw⟩ := ho
  obtain ⟨us, v, rfl, ku, dv⟩ := kw.snoc
  cases dv.ref_inv
  exact ⟨us ++ [.ref b], m, rfl, ku.append (.one (.lst e (kv.mono s)))⟩
end
section
variable {c : GC} {A : Around} {env : Env} {r : Rec} {g : FB} {own own' : Led} {L a : Addr} {loc loc' : Loc} {h : Heap} {pos : Pos} {E : Value → Heap → Prop} {ds es : List Dt} {le re : Expr}
theorem Wp_addW2 {R : Value → Heap → Prop}
    (W : ∀ Z : Value → Heap → Prop, (∀ a g₁ own₁ ds es h₁, St c r g₁ own₁ L loc h₁ → LstAt g₁ h₁ a ds → EvN c A env re g₁ h₁ es → ds.length + es.length ≤ sizeLine →
      (∀ x g₃ h₃, St c r g₃ ((x, .lst (ds ++ es)) :: own₁) L loc h₃ → h₁.get? x = none → Sub g₁ g₃ → R (.ref x) h₃) → Z (.ref a) h₁) → Wp c A (eval le env) Z E h) : Wp c A (eval (.BinOp le .Add re pos) env) R E h := by
  refine Wp_BinOp (W _ fun a g₁ own₁ ds es h₁ D₁ la pr hsz k => ?_)
  refine (pr.go g₁ h₁ D₁.gr).go g₁ h₁ D₁.gr _ E fun v g₂ h₂ G₂ z => ?_
  obtain ⟨b, rfl, hb, gb, lb⟩ := z
  refine (ev_addL (c := c) (A := A) (la.gr G₂) lb hsz g₂ h₂ G₂.here).go g₂ h₂ G₂.here R E fun v g₃ h₃ G₃ z => ?_
  obtain ⟨x, rfl, hx, gx, vs, n, eo, kv⟩ := z
  have hx1 : h₁.get? x = none := (Al.of G₂.kp).none hx
  exact k x g₃ h₃ (D₁.adopt (x := .lst (ds ++ es)) (G₂.trans G₃) hx1 gx eo ⟨vs, n, rfl, kv⟩) hx1 (G₂.sub.trans G₃.sub)
end
section
variable {c : GC} {r : Rec} {g : FB} {own own' : Led} {L a : Addr} {loc loc' : Loc} {h h' : Heap} {S : List Addr}
theorem own_one {own : Led} (nd : (own.map (·.1)).Nodup) {a : Addr} {x y : OC} (hx : (a, x) ∈ own) (hy : (a, y) ∈ own) : x = y := by
  induction own with
  | nil => cases hx
  | cons p own ih =>
    rw [List.map_cons, List.nodup_cons] at nd
    rcases List.mem_cons.mp hx with e | hx' <;> rcases List.mem_cons.mp hy with e' | hy'
    · rw [← e] at e'; exact (Prod.mk.inj e').2.symm
    · exact absurd (List.mem_map_of_mem (f := (·.1)) hy') (by rw [← e] at nd; exact nd.1)
    · exact absurd (List.mem_map_of_mem (f := (·.1)) hx') (by rw [← e'] at nd; exact nd.1)
    · exact ih nd.2 hx' hy'
theorem St.slots (D : St c r g own L loc h) (x : Heap.SlotsOnly S h h') (hS : ∀ a ∈ S, a = L ∨ ∃ m, (a, OC.fm m) ∈ own) : St c r g own L loc h' := by
  have nS : ∀ b o, g b = some o → b ∉ S := fun b o e q => by
    rcases hS b q with rfl | ⟨m, hm⟩
    · rw [D.gL] at e; cases e
    · have := (D.ow _ hm).2
      rw [e] at this; cases this
  refine ⟨⟨fun b o e => (x.2.1 b (nS b o e)).trans (D.gh _ _ e), fun p hp => ?_, D.nd, D.g0, D.fr, fun b o hb e => ?_, D.os, D.al.trans fun b o e => let ⟨sl, e'⟩ := x.2.2 b o e; ⟨_, e'⟩⟩, D.cb, ?_, D.gL, D.oL, D.Lr⟩
  · obtain ⟨⟨o, e, i⟩, n⟩ := D.ow p hp
    by_cases q : p.1 ∈ S
    · rcases hS _ q with eL | ⟨m, hm⟩
      · exact absurd eL (D.oL p hp)
      · have : p.2 = OC.fm m := own_one D.nd (show (p.1, p.2) ∈ own from hp) hm
        obtain ⟨sl, e'⟩ := x.2.2 _ _ e
        rw [this] at i ⊢
        obtain ⟨es, ep, i1, i2, i3⟩ := i
        exact ⟨⟨_, e', es, ep, i1, i2, i3⟩, n⟩
    · exact ⟨⟨o, (x.2.1 _ q).trans e, i⟩, n⟩
  · refine (x.2.1 b fun q => ?_).trans (D.kp b o hb e)
    rcases hS b q with rfl | ⟨m, hm⟩
    · rw [D.Lr] at e; cases e
    · rcases D.os _ hm with z | z
      · exact hb z
      · rw [show r.h.get? b = none from z] at e; cases e
  · obtain ⟨m, ⟨o, es, ep, e, k1, k2, k3⟩, kn⟩ := D.ns
    obtain ⟨sl, e'⟩ := x.2.2 _ _ e
    exact ⟨m, ⟨_, es, ep, e', k1, k2, k3⟩, kn⟩
end
noncomputable abbrev OC.exc (X : String) (t0 : Addr) (hd : Option Addr) : OC := .pr fun o => o.cls = .type X ∧ ∃ vs, o.data = .fields vs ∧ vs[0]? = some (.ref t0) ∧ vs[1]? = some (hd.elim .none .ref) ∧ vs[2]? = some .none
noncomputable abbrev OC.tb (x : Value) : OC := .pr fun o => ∃ ts, o.data = .fields ts ∧ ts[3]? = some x
structure Hot (A : Around) (env : Env) (own : Led) (L : Addr) : Prop where
  fr : ∃ outer, A.frames = some (env :: outer) ∧ (∀ e ∈ env :: outer, e.scope.kind ≠ .module ∧ ∃ a, e.frame = some a ∧ (a = L ∨ ∃ m, (a, OC.fm m) ∈ own))
  f : env.frame = some L
section
variable {c : GC} {A : Around} {env : Env} {r : Rec} {g : FB} {own own' : Led} {L a e T : Addr} {loc loc' : Loc} {h h' : Heap} {X : String} {t0 : Addr} {hd : Option Addr} {x : Value} {E : Value → Heap → Prop}
theorem Hot.fun (H : Hot A env own L) (D : St c r g own L loc h) : ∃ outer, A.frames = some (env :: outer) ∧ h.FunFrames c.b (env :: outer) ∧ ∀ a ∈ (env :: outer).filterMap (·.frame), a = L ∨ ∃ m, (a, OC.fm m) ∈ own := by
  obtain ⟨outer, hA, hk⟩ := H.fr
  refine ⟨outer, hA, ?_, fun a ha => ?_⟩
  · have cb : ∀ b, g b = none → c.b.get? b = none := fun b hb => by
      cases q : c.b.get? b with
      | none => rfl
      | some o => have := D.cb _ _ q; rw [hb] at this; cases this
    have go : ∀ l : List Env, (∀ e ∈ l, e.scope.kind ≠ .module ∧ ∃ a, e.frame = some a ∧ (a = L ∨ ∃ m, (a, OC.fm m) ∈ own)) → h.FunFrames c.b l := by
      intro l
      induction l with
      | nil => intro _; trivial
      | cons e l ih =>
        intro hl
        obtain ⟨k, a, fa, ha⟩ := hl e (.head _)
        refine ⟨k, ?_, ih fun e' he' => hl e' (.tail _ he')⟩
        rcases ha with rfl | ⟨m, hm⟩
        · obtain ⟨m, ⟨o, es, ep, eo, k1, _⟩, _⟩ := D.ns
          exact ⟨a, o, fa, cb _ D.gL, eo, fun vs q => by rw [k1] at q; cases q⟩
        · obtain ⟨⟨o, eo, es, ep, k1, _⟩, n⟩ := D.ow _ hm
          exact ⟨a, o, fa, cb _ n, eo, fun vs q => by rw [k1] at q; cases q⟩
    exact go _ hk
  · obtain ⟨e, he, fa⟩ := List.mem_filterMap.mp ha
    obtain ⟨_, a', fa', z⟩ := hk e he
    rw [fa'] at fa
    cases fa
    exact z
end
section
variable {c : GC} {A : Around} {env : Env} {r : Rec} {g : FB} {own own₁ : Led} {ow : Addr → Led} {L a e T : Addr} {loc loc' : Loc} {h h' : Heap} {X : String} {t0 : Addr} {x : Value} {E : Value → Heap → Prop} {Q : Unit → Heap → Prop}
theorem Wp_entry {hd : Option Addr} {hadNext : Bool} (D : St c r g own L loc h) (H : Hot A env own L) (U : ∀ T', Up e (.exc X t0 hd) (.exc X t0 (some T')) own (ow T'))
    (k : ∀ T' h', St c r g ((T', .tb (rawInt L)) :: ow T') L loc h' → Q () h') :
    Wp c A (do setField (.ref e) 1 (← EntryCells.newEntry (hd.elim .none .ref) (← frameOf env) .none (rawInt L) .none (← entryPlaceOf L hadNext))) Q E h := ⟨fun s hs hr => by
  subst hs
  obtain ⟨outer, hA, hF, hS⟩ := H.fun D
  refine wpAny_bind (wpAny_frameOf_fun hA hF H.f fun h₁ hs₁ => ?_)
  have D₁ := D.slots hs₁ hS
  refine wpAny_bind (wpAny_entryPlaceOf fun pl hpl => ?_)
  unfold EntryCells.newEntry newFields
  refine wpAny_bind (wpAny_newObj_type ?_ (hpl.sizeOk5 _ _ _ _ _))
  have D₂ := D₁.push (o := { cls := .type "traceback", dict := none, data := .fields ([hd.elim .none .ref, .ref L, .none, rawInt L, .none] ++ (if pl.isEmpty then List.replicate 6 Value.none else pl)).toArray }) (x := .tb (rawInt L)) rfl ⟨_, rfl, by simp⟩
  have U' := Up.tail (p := (h₁.objs.size, OC.tb (rawInt L))) (U h₁.objs.size)
  obtain ⟨o, eo, oc, vs, od, v0, v1, v2⟩ := D₂.get U'.mem
  refine wpAny_setField eo od (Array.getElem?_eq_some_iff.mp v1).1 ⟨k h₁.objs.size _ (D₂.up U' (Heap.SameBut.update ..) (Heap.get?_update_self _ eo (Obj.isFreed_of_fields (Obj.data_mapFields od _))) ⟨(Obj.cls_mapFields ..).trans oc, _, Obj.data_mapFields od _, ?_, ?_, ?_⟩), hr⟩
  · simpa using v0
  · have := (Array.getElem?_eq_some_iff.mp v1).1
    simp [this]
  · simpa using v2⟩
theorem Wp_note0 (D : St c r g own L loc h) (H : Hot A env own L) (U : ∀ T', Up e (.exc X t0 none) (.exc X t0 (some T')) own (ow T'))
    (k : ∀ T' h', St c r g ((T', .tb (rawInt L)) :: ow T') L loc h' → Q () h') : Wp c A (noteFrame (.ref e) env) Q E h := by
  have W := Wp_entry (E := E) (hadNext := false) D H U k
  exact ⟨fun s hs hr => by
    have w := W.run s hs hr
    subst hs
    obtain ⟨o, eo, oc, vs, od, v0, v1, v2⟩ := D.get (U 0).mem
    unfold noteFrame
    simp only [H.f]
    refine wpAny_bind (wpAny_field eo od v1 ?_)
    rw [if_neg (by simp)]
    exact w⟩
theorem Wp_note1 (D : St c r g own L loc h) (H : Hot A env own₁ L) (V : Up T (.tb x) (.tb .none) own own₁) (he : (e, OC.exc X t0 (some T)) ∈ own) (hx : x ≠ rawInt L) (U : ∀ T', Up e (.exc X t0 (some T)) (.exc X t0 (some T')) own₁ (ow T'))
    (k : ∀ T' h', St c r g ((T', .tb (rawInt L)) :: ow T') L loc h' → Q () h') : Wp c A (noteFrame (.ref e) env) Q E h := ⟨fun s hs hr => by
  subst hs
  obtain ⟨o, eo, oc, vs, od, v0, v1, v2⟩ := D.get he
  obtain ⟨oT, eT, ts, oTd, t3⟩ := D.get V.mem
  unfold noteFrame
  simp only [H.f]
  refine wpAny_bind (wpAny_field eo od v1 ?_)
  rw [if_pos (by simp)]
  refine wpAny_bind (wpAny_field eT oTd t3 ?_)
  rw [if_neg (by simpa using hx)]
  refine wpAny_bind (wpAny_setField eT oTd (Array.getElem?_eq_some_iff.mp t3).1 ?_)
  have D₁ := D.up V (Heap.SameBut.update s.heap T (Obj.mapFields (·.setIfInBounds 3 .none))) (Heap.get?_update_self _ eT (Obj.isFreed_of_fields (Obj.data_mapFields oTd _))) ⟨_, Obj.data_mapFields oTd _, by simp [(Array.getElem?_eq_some_iff.mp t3).1]⟩
  exact (Wp_entry (E := E) (hadNext := true) (hd := some T) D₁ H U k).run _ rfl hr⟩
theorem Wp_flight (D : St c r g own L loc h) (he : (e, OC.exc X t0 (some T)) ∈ own) (V : Up T (.tb x) (.tb .none) own own₁) (k : ∀ h', St c r g own₁ L loc h' → Q () h') : Wp c A (setFlight (.ref e) none) Q E h := ⟨fun s hs hr => by
  subst hs
  obtain ⟨o, eo, oc, vs, od, v0, v1, v2⟩ := D.get he
  obtain ⟨oT, eT, ts, oTd, t3⟩ := D.get V.mem
  unfold setFlight
  refine wpAny_bind (wpAny_field eo od v1 ?_)
  rw [if_pos (by simp)]
  exact wpAny_setField eT oTd (Array.getElem?_eq_some_iff.mp t3).1 ⟨k _ (D.up V (Heap.SameBut.update s.heap T _) (Heap.get?_update_self _ eT (Obj.isFreed_of_fields (Obj.data_mapFields oTd _))) ⟨_, Obj.data_mapFields oTd _, by simp [(Array.getElem?_eq_some_iff.mp t3).1]⟩), hr⟩⟩
end
section
variable {c : GC} {A : Around} {env : Env} {r : Rec} {g : FB} {own : Led} {L : Addr} {loc : Loc} {h : Heap} {X N I N' I' : String} {E : Value → Heap → Prop} {x : Str} {np pos : Pos} {Q : Flow → Heap → Prop} {rest : List Stmt}
theorem sRaise (D : St c r g own L loc h) (hh : A.handled = none) (hc : ExcClass X N I) (F : ExcCallFacts X N' I') (hself : isSubtype (.type X) (.type X) = pure true) (hx : Ev c A (eval (.Name x np) env) g h fun _ _ v => v = .type X)
    (k : ∀ e t0 g' h', St c r g' ((e, OC.exc X t0 none) :: own) L loc h' → Sub g g' → g' t0 = some (tupOf [] 0) → r.h.get? e = none → E (.ref e) h') : Wp c A (execs (.Raise (some (.Name x np)) none pos :: rest) env) Q E h := by
  refine sCons ⟨fun s hs hr => ?_⟩
  have W := hx.wp (Q := fun v h' => v = .type X ∧ ∃ g', St c r g' own L loc h' ∧ Sub g g') (E := E) D fun v g' h' D' G e => ⟨e, g', D', G.sub⟩
  show wpAny (Mo c) A (do standAt pos; raiseStmt env (some (do let v ← eval (.Name x np) env; standAt pos; pure v)) none) _ _ s
  refine wpAny_bind (wpAny_standAt ?_)
  unfold raiseStmt
  dsimp only
  refine wpAny_bind (wpAny_bind (W.wpAny_of hs hr fun v s₁ ⟨ev, g₁, D₁, sg⟩ r₁ => wpAny_bind (wpAny_standAt (wpAny_pure ?_))))
  subst ev
  refine wpAny_bind (wpAny_pure ?_)
  dsimp only
  refine wpAny_bind (wpAny_holding ?_)
  unfold excFromValue isExcClass
  refine wpAny_bind (wpAny_bind (wpAny_pure ?_))
  simp only [if_true]
  rw [hc.base]
  refine wpAny_pure ?_
  simp only [if_true]
  obtain ⟨hp, gn, dr, tk, os⟩ := s₁
  refine wpAny_bind (wpAny_call_exc F (rest := []) fun h' e hm => ?_)
  obtain ⟨t, he, ht0, ht⟩ := hm.there
  have hT : ({ heap := h', gens := gn, drawn := dr, toks := tk, os := os } : Shared).TypeIs (.ref e) X := ⟨_, he, rfl⟩
  refine wpAny_bind (wpAny_isInstance hT hc.base ?_)
  simp only [Bool.not_true, Bool.false_eq_true, if_false]
  refine wpAny_pure ?_
  refine wpAny_bind (m := isType (.type X)) (wpAny_pure ?_)
  rw [if_pos rfl]
  refine wpAny_bind (wpAny_holding ?_)
  unfold raisedFor
  refine wpAny_bind (wpAny_typeOf hT ?_)
  refine wpAny_bind (call_issubclass (issubclass_self hc hself) ?_)
  dsimp only [wants]
  refine wpAny_bind (wpAny_truthy_bool ?_)
  rw [if_pos rfl]
  refine wpAny_pure ?_
  have hnn : r₁ = r₁ := rfl
  have en : hp.get? e = none := hm.new
  have D₂ := D₁.grow (.heap D₁.gh hm.keeps)
  have Gt := (Gr.heap D₁.gh hm.keeps).fz ht0 (FB.none_of D₁.gh ht0) ht
  have D₃ := D₁.grow Gt.1
  have et : t ≠ e := fun q => by
    have h1 := ht
    rw [q, he] at h1
    cases h1
  have ge : (g₁.put t { cls := .type "tuple", data := .seq #[] }) e = none := by
    unfold FB.put
    rw [if_neg (Ne.symm et)]
    exact FB.none_of D₁.gh en
  have D₄ := D₃.add (x := OC.exc X t none) he ⟨rfl, _, rfl, rfl, rfl, rfl⟩ ge (fun q => by
    obtain ⟨p, hp', ee⟩ := List.mem_map.mp q
    obtain ⟨⟨o, eo, _⟩, _⟩ := D₁.ow p hp'
    rw [ee] at eo
    have eo : hp.get? e = some o := eo
    rw [en] at eo; cases eo) (fun q => by
    obtain ⟨o, eo⟩ := D₁.ns.live
    have eo : hp.get? L = some o := eo
    rw [← q, en] at eo; cases eo) (D₁.none_of en)
  have fin := k e t _ h' D₄ (sg.trans Gt.2.1) Gt.2.2 (D₁.none_of en)
  unfold raiseNew
  refine wpAny_bind ?_
  unfold setFlight
  refine wpAny_bind (wpAny_field he rfl (x := .none) rfl ?_)
  rw [if_neg (by simp)]
  refine wpAny_pure ?_
  refine wpAny_bind (wpAny_handled ?_)
  rw [hh]
  first
    | exact wpAny_throw ⟨fin, r₁⟩
    | exact wpAny_bind (wpAny_pure (wpAny_throw ⟨fin, r₁⟩))
end
section
variable {c : GC} {A : Around} {env : Env} {r : Rec} {g : FB} {own own₁ : Led} {L a e T : Addr} {loc loc' : Loc} {h h' : Heap} {X : String} {t0 : Addr} {E : Value → Heap → Prop} {Q : Unit → Heap → Prop}
theorem Wp_leave0 (D : St c r g ((e, OC.exc X t0 none) :: own) L loc h) (H : Hot A env ((e, OC.exc X t0 none) :: own) L)
    (k : ∀ T h', St c r g ((T, .tb .none) :: (e, .exc X t0 (some T)) :: own) L loc h' → Q () h') : Wp c A (leaving env (.ref e)) Q E h :=
  Wp_eq (show _ = (noteFrame (.ref e) env >>= fun _ => setFlight (.ref e) none) from rfl) (Wp_bind (Wp_note0 (ow := fun T => (e, .exc X t0 (some T)) :: own) D H (fun T => .head) fun T h₁ D₁ => Wp_flight (T := T) D₁ (.tail _ (.head _)) .head fun h₂ D₂ => k T h₂ D₂))
end
section
variable {c : GC} {A : Around} {g : FB} {mu : Led} {h : Heap} {R : Result → Heap → Prop} {f : Addr} {args : Args} {binds : List (Str × Value)} {bd : Loc}
  {name qual : Str} {params : Arguments} {body : List Stmt} {scope : Scope} {dV kV doc pm cdv ct oc : Value} {an od : Option Addr} {osl : Array (Option Value)}
noncomputable def Thrown (c : GC) (A : Around) (r : Rec) (L : Addr) (env : Env) (R : Result → Heap → Prop) : Value → Heap → Prop := fun ev h' =>
  ∃ e X t0 g' own' loc, ev = .ref e ∧ St c r g' ((e, OC.exc X t0 none) :: own') L loc h' ∧ Hot A env ((e, OC.exc X t0 none) :: own') L ∧
    ∀ T h'', St c r g' ((T, .tb .none) :: (e, .exc X t0 (some T)) :: own') L loc h'' → R (.error (.ref e)) h''
theorem enterDX (P : Pre c g mu h)
    (ho : (hd.heap_1 c.w.params).lookup f = some ⟨oc, od, .func (fnX name qual params body scope [] dV kV doc pm an cdv ct), osl⟩)
    (hcd : codeIn (hd.heap_1 c.w.params) cdv qual = true) {dd uu : Nat} (hroom : Rm A (dd + 1) (uu + 3))
    (hbind : ∀ s : Shared, s.heap = h → BindsTo s (fnX name qual params body scope [] dV kV doc pm an cdv ct) args binds) (hloc : ∀ y ∈ binds, scope.names.lookup y.1 = some .local)
    (hcell : ∀ x ∈ scope.names, x.2 ≠ .cell) (hco : scope.isCoroutine = false) (hgen : scope.isGenerator = false) (hk : scope.kind = .function)
    (hb : ∀ x d, bd.lookup x = some d → ∃ v, binds.reverse.lookup x = some v ∧ Den g v d)
    (k : ∀ L h₁, St c ⟨g, h, mu.map (·.1)⟩ g mu L bd h₁ → Fn (envX qual scope L f cdv []) L → Rm (A.deeper (envX qual scope L f cdv [])) dd uu → Wp c (A.deeper (envX qual scope L f cdv [])) (execs body (envX qual scope L f cdv [])) (fun fl h' => R (.ok (.ret (match fl with | .ret v => v | _ => .none))) h')
      (Thrown c (A.deeper (envX qual scope L f cdv [])) ⟨g, h, mu.map (·.1)⟩ L (envX qual scope L f cdv []) R) h₁) :
    Cd c A (.call (.ref f) args) R h := ⟨fun s hs hr => by
  subst hs
  refine codeAny_call_def (fd := fnX name qual params body scope [] dV kV doc pm an cdv ct) (body := body) (binds := binds) (Nat.lt_of_le_of_lt (Nat.le_add_right _ _) hroom.d) (P.bas.keep _ _ (c.X _ _ ho)) rfl (c.T.nolimit.keeps P.bas.keep) (codeRec_of (c.X.keeps P.bas.keep) hcd) rfl (hbind s rfl) hcell hloc (fun h₁ hns hk₁ => ?_) hco hgen hk
  have hL : s.heap.get? s.heap.objs.size = none := Heap.get?_push_self_none _
  have D : St c ⟨g, s.heap, mu.map (·.1)⟩ g mu s.heap.objs.size bd h₁ := by
    refine ⟨⟨fun a o e => hk₁ _ _ (P.gh _ _ e), fun p hp => ?_, P.nd, .rfl, fun _ _ e => .inl e, fun a o _ e => hk₁ _ _ e, fun p hp => .inl (List.mem_map_of_mem hp), .of hk₁⟩, P.cb, ⟨_, hns, hb⟩, FB.none_of P.gh hL, fun p hp e => ?_, hL⟩
    · obtain ⟨⟨o, e, i⟩, n⟩ := P.ow p hp
      exact ⟨⟨o, hk₁ _ _ e, i⟩, n⟩
    · obtain ⟨⟨o, e', i⟩, n⟩ := P.ow p hp
      rw [e, hL] at e'; cases e'
  refine wpAny_mono ((k _ _ D ⟨hk, rfl, rfl, rfl⟩ (hroom.deeper _)).run _ rfl hr) (fun _ _ y => y) fun ev s₂ ⟨y, r₂⟩ => ?_
  obtain ⟨e, X, t0, g', own', loc, rfl, D₂, H, kk⟩ := y
  exact wpAny_mono ((Wp_leave0 (E := NoE) D₂ H fun T h'' D₃ => kk T h'' D₃).run s₂ rfl r₂) (fun _ _ y => y) fun _ _ y => y.1.elim⟩
end
section
variable {c : GC} {r : Rec} {g g' : FB} {own mu rest own' : Led} {L : Addr} {loc : Loc} {h h' : Heap} {m : Str → Option Value} {ks : List Addr}
theorem St.preFr (D : St c r g own L loc h) (S : Sel own mu rest) : ∃ m, Kn m g loc ∧ Pre c g ((L, OC.fm m) :: mu) h := by
  obtain ⟨m, ⟨oL, es, ep, eL, k1, k2, k3⟩, kn⟩ := D.ns
  refine ⟨m, kn, D.cb, D.gh, fun p hp => ?_, ?_⟩
  · rcases List.mem_cons.mp hp with rfl | hp
    · exact ⟨⟨oL, eL, es, ep, k1, k2, k3⟩, D.gL⟩
    · exact D.ow p (S.memL.1 p hp)
  · rw [List.map_cons, List.nodup_cons]
    refine ⟨fun q => ?_, (S.nd D.nd).1⟩
    obtain ⟨p, hp, e⟩ := List.mem_map.mp q
    exact D.oL p (S.memL.1 p hp) e
theorem St.back (D : St c r g own L loc h) (S : Sel own mu rest) (kn : Kn m g loc) (hk : ∀ k ∈ ks, k = L ∨ k ∈ mu.map (·.1)) (R : Ret ⟨g, h, ks⟩ g' ((L, OC.fm m) :: own') h') : St c r g' (own' ++ rest) L loc h' := by
  obtain ⟨_, nr, ap⟩ := S.nd D.nd
  have alive : ∀ p ∈ own, h.get? p.1 ≠ none := fun p hp e => by obtain ⟨⟨o, q, _⟩, _⟩ := D.ow p hp; rw [e] at q; cases q
  have rk : ∀ p ∈ rest, p.1 ∉ ks := fun p hp q => by
    rcases hk _ q with e | q
    · exact D.oL p (S.memL.2 p hp) e
    · obtain ⟨p', hp', e⟩ := List.mem_map.mp q
      exact ap p' hp' p hp e
  have ndR := R.nd
  rw [List.map_cons, List.nodup_cons] at ndR
  have oL' : ∀ p ∈ own', p.1 ≠ L := fun p hp e => ndR.1 (e ▸ List.mem_map_of_mem (f := (·.1)) hp)
  have src : ∀ p ∈ own', p.1 ∈ mu.map (·.1) ∨ h.get? p.1 = none := fun p hp => by
    rcases R.os p (.tail _ hp) with q | q
    · rcases hk _ q with e | q
      · exact absurd e (oL' p hp)
      · exact .inl q
    · exact .inr q
  obtain ⟨⟨oL, eL, es, ep, k1, k2, k3⟩, gL'⟩ := R.ow _ (.head _)
  refine ⟨⟨R.gh, fun p hp => ?_, ?_, D.g0.trans R.g0, fun a o e => ?_, fun a o ha e => ?_, fun p hp => ?_, D.al.trans R.al⟩, fun a o e => R.g0 _ _ (D.cb a o e), ⟨m, ⟨oL, es, ep, eL, k1, k2, k3⟩, kn.mono R.g0⟩, gL', fun p hp => ?_, D.Lr⟩
  · rcases List.mem_append.mp hp with hp | hp
    · exact R.ow p (.tail _ hp)
    · obtain ⟨⟨o, e, i⟩, n⟩ := D.ow p (S.memL.2 p hp)
      refine ⟨⟨o, R.kp _ _ (rk p hp) e, i.mono R.g0⟩, ?_⟩
      cases q : g' p.1 with
      | none => rfl
      | some o' =>
        rcases R.fr _ _ q with q | q
        · have q : g p.1 = some o' := q
          rw [n] at q; cases q
        · exact absurd q (alive p (S.memL.2 p hp))
  · rw [List.map_append]
    refine List.nodup_append.mpr ⟨ndR.2, nr, fun x hx y hy e => ?_⟩
    obtain ⟨p, hp, rfl⟩ := List.mem_map.mp hx
    obtain ⟨q, hq, rfl⟩ := List.mem_map.mp hy
    rcases src p hp with z | z
    · obtain ⟨p', hp', e'⟩ := List.mem_map.mp z
      exact ap p' hp' q hq (e'.trans e)
    · exact alive q (S.memL.2 q hq) (e ▸ z)
  · rcases R.fr a o e with q | q
    · exact D.fr a o q
    · exact .inr (D.al.none q)
  · refine R.kp a o (fun q => ?_) (D.kp a o ha e)
    rcases hk _ q with rfl | q
    · rw [D.Lr] at e; cases e
    · obtain ⟨p, hp, rfl⟩ := List.mem_map.mp q
      rcases D.os p (S.memL.1 p hp) with z | z
      · exact ha z
      · rw [z] at e; cases e
  · rcases List.mem_append.mp hp with hp | hp
    · rcases src p hp with z | z
      · obtain ⟨p', hp', e'⟩ := List.mem_map.mp z
        have := D.os p' (S.memL.1 p' hp')
        rw [e'] at this; exact this
      · exact .inr (D.al.none z)
    · exact D.os p (S.memL.2 p hp)
  · rcases List.mem_append.mp hp with hp | hp
    · exact oL' p hp
    · exact D.oL p (S.memL.2 p hp)
end
section
variable {c : GC} {A : Around} {env : Env} {g : FB} {h : Heap} {pos p : Pos} {es : List Expr} {x : Str} {ds : List Dt} {E : Value → Heap → Prop} {f : Addr} {fo : Obj} {fd : FuncData}
  {r : Rec} {own mu rest' : Led} {L : Addr} {loc : Loc}
theorem Wp_CallX {Q : Value → Heap → Prop} {ks : List Addr} {Post PostE : FB → Value → Led → Prop} (D : St c r g own L loc h) (hf : Ev c A (eval (.Name x p) env) g h fun _ _ v => v = .ref f) (ho : c.b.get? f = some fo) (hd' : fo.data = .func fd)
    (a : EvA c A env pos es g h ds) (hne : ∃ x r, backTo pos (starEach es env) = (false, x) :: r) (S : Sel own mu rest') (hk : ∀ k ∈ ks, k = L ∨ k ∈ mu.map (·.1))
    (spec : ∀ m vs g₁ h₁, Pre c g₁ ((L, OC.fm m) :: mu) h₁ → Dens g₁ vs ds → Sub g g₁ → Cd c A (.call (.ref f) ⟨vs, []⟩) (fun r h' =>
      (∃ v g' own', r = .ok (.ret v) ∧ Ret ⟨g₁, h₁, ks⟩ g' ((L, OC.fm m) :: own') h' ∧ Post g' v own') ∨ (∃ e g' own', r = .error e ∧ Ret ⟨g₁, h₁, ks⟩ g' ((L, OC.fm m) :: own') h' ∧ PostE g' e own')) h₁)
    (k : ∀ v g' own' h', St c r g' (own' ++ rest') L loc h' → Sub g g' → Post g' v own' → Q v h')
    (kE : ∀ e g' own' h', St c r g' (own' ++ rest') L loc h' → Sub g g' → PostE g' e own' → E e h') : Wp c A (eval (.Call (.Name x p) es [] pos) env) Q E h :=
  Wp_CallD D hf ho hd' a hne fun vs g₁ h₁ D₁ G₁ dv => by
    obtain ⟨m, kn, P⟩ := D₁.preFr S
    refine (spec m vs g₁ h₁ P dv G₁.sub).mono fun r' h' y => ?_
    rcases y with ⟨v, g', own', e, R, z⟩ | ⟨ev, g', own', e, R, z⟩
    · subst e
      exact k v g' own' h' (D₁.back S kn hk R) (G₁.sub.trans R.g0) z
    · subst e
      exact kE ev g' own' h' (D₁.back S kn hk R) (G₁.sub.trans R.g0) z
end
theorem entry_unchain : entryFor table "proto.unchain" = some Builtin.«proto.unchain» := entryFor_of_tree (by kernel_rfl)
section
variable {prog : Program} {w : World} {A : Around} {E : Value → Shared → Prop} {s : Shared}
theorem wp_unchain {e : Value} {x : Addr} {ox : Obj} {vs : Array Value} {Q : Value → Shared → Prop} (hx : s.heap.get? x = some ox) (hd : ox.data = .fields vs) (h2 : vs[2]? = some .none) (h : Q .none s) :
    wpAny (model prog w) A (runValue (.builtin "proto.unchain" ⟨[e, .ref x, .ref x, .bool false], []⟩)) Q E s := by
  refine wpAny_runValue (codeAny_builtin entry_unchain ?_)
  unfold Builtin.«proto.unchain»
  dsimp only
  refine wpAny_bind (wpAny_field hx hd h2 ?_)
  rw [if_pos (by rfl)]
  first
    | exact wpAny_pure h
    | (refine wpAny_bind ?_; exact wpAny_pure (wpAny_pure h))
end
noncomputable abbrev OC.lit (l : Addr) (i : Nat) : OC := .pr fun o => o.cls = .type "list_iterator" ∧ o.data = .fields #[.ref l, .int i 0]
noncomputable def FzL (g : FB) (l : Addr) (ds : List Dt) : Prop := ∃ vs n, g l = some (listOf vs.toArray n) ∧ Dens g vs ds
theorem FzL.mono {g g' : FB} {l : Addr} {ds : List Dt} (x : FzL g l ds) (s : Sub g g') : FzL g' l ds := let ⟨vs, n, e, k⟩ := x; ⟨vs, n, s _ _ e, k.mono s⟩
theorem Den.fzL {g : FB} {v : Value} {ds : List Dt} (x : Den g v (.lst ds)) : ∃ l, v = .ref l ∧ FzL g l ds := by
  obtain ⟨a, vs, n, rfl, e, k⟩ := x.lst_inv
  exact ⟨a, rfl, vs, n, e, k⟩
section
variable {c : GC} {A : Around} {r : Rec} {g : FB} {own own' : Led} {L it l : Addr} {loc : Loc} {h : Heap} {i : Nat} {ds : List Dt} {d : Dt} {Q : Value → Heap → Prop} {E : Value → Heap → Prop}
theorem Wp_iterL (D : St c r g own L loc h) (F : FzL g l ds) (k : ∀ it h', St c r g ((it, .lit l 0) :: own) L loc h' → r.h.get? it = none → Q (.ref it) h') : Wp c A (call (.builtin "iter") [.ref l]) Q E h := ⟨fun s hs hr => by
  subst hs
  obtain ⟨vs, n, e, kv⟩ := F
  refine call_function_entry (by decide +kernel) (by decide +kernel) kdk_entry_iter (kdk_args_iter _) ?_
  unfold Builtin.«iter»
  refine wpAny_bind (m := someArgs "iter" 1 2 _) (wpAny_of_eq (a := [Value.ref l]) (by first | rfl | kernel_rfl!) ?_)
  show wpAny _ _ (pyIter (.ref l) >>= _) _ _ _
  refine wpAny_bind (wpAny_pyIter_list ⟨_, D.gh _ _ e, rfl, n, rfl⟩ ?_)
  exact wpAny_pure ⟨_, rfl, k _ _ (D.push rfl ⟨rfl, rfl⟩) (D.none_of (Heap.get?_push_self_none _)), hr⟩⟩
theorem Wp_nextI (D : St c r g own L loc h) (U : Up it (.lit l i) (.lit l (i + 1)) own own') (F : FzL g l ds) (hx : ds[i]? = some d)
    (k : ∀ v h', St c r g own' L loc h' → Den g v d → Q v h') : Wp c A (call (.builtin "next") [.ref it]) Q E h := ⟨fun s hs hr => by
  subst hs
  obtain ⟨vs, n, el, kv⟩ := F
  obtain ⟨o, ho, hc, hd⟩ := D.get U.mem
  obtain ⟨x, ex, dx⟩ := kv.arr hx
  have hT : s.TypeIs (.ref it) "list_iterator" := ⟨o, ho, hc⟩
  refine call_function_entry (by decide +kernel) (by decide +kernel) kdk_entry_next (kdk_args_next _) ?_
  unfold Builtin.«next»
  refine wpAny_bind (m := someArgs "next" 1 2 _) (wpAny_of_eq (a := [Value.ref it]) (by first | rfl | kernel_rfl!) ?_)
  dsimp only
  refine wpAny_bind (wpAny_specialOf (name := Str.ofString "__next__") hT slot_listiter_next.lookup ?_)
  refine wpAny_ite_split (fun hab => absurd hab (by decide)) (fun _ => ?_)
  refine wpAny_bind (wpAny_callSpecial?_slot (name := Str.ofString "__next__") hT slot_listiter_next
    (wpAny_call_entry slot_listiter_next hT entry_listiter_next ?_ (args_listiter_next _)))
  show wpAny _ _ (field (.ref it) 0 >>= _) _ _ s
  refine wpAny_bind (wpAny_field ho hd (x := .ref l) rfl ?_)
  show wpAny _ _ (if (Value.ref l == Value.none) = true then _ else _) _ _ s
  rw [if_neg (show ¬ ((Value.ref l == Value.none) = true) from Bool.false_ne_true)]
  show wpAny _ _ (field (.ref it) 1 >>= _) _ _ s
  refine wpAny_bind (wpAny_field ho hd (x := .int i 0) rfl ?_)
  show wpAny _ _ (seqItems? (.ref l) >>= _) _ _ s
  refine wpAny_bind (wpAny_seqItems (D.gh _ _ el) rfl ?_)
  simp only [Int.toNat_natCast, ex]
  refine wpAny_bind (wpAny_setField ho hd (by simp) (wpAny_pure ⟨x, rfl, wpAny_pure ⟨_, rfl, ?_⟩⟩))
  refine ⟨k x _ (D.up U (Heap.SameBut.update ..) (Heap.get?_update_self _ ho (Obj.isFreed_of_fields (Obj.data_mapFields hd _))) ⟨(Obj.cls_mapFields ..).trans hc, ?_⟩) dx, hr⟩
  rw [Obj.data_mapFields hd]; simp [rawInt]⟩
theorem Wp_nextE (hh : A.handled = none) (D : St c r g own L loc h) (U : Up it (.lit l i) (.pr fun _ => True) own own') (F : FzL g l ds) (hx : ds.length ≤ i)
    (k : ∀ e t0 g' h', St c r g' ((e, .exc "StopIteration" t0 none) :: own') L loc h' → Sub g g' → g' t0 = some (tupOf [] 0) → r.h.get? e = none → E (.ref e) h') : Wp c A (call (.builtin "next") [.ref it]) Q E h := ⟨fun s hs hr => by
  subst hs
  obtain ⟨vs, n, el, kv⟩ := F
  obtain ⟨o, ho, hc, hd⟩ := D.get U.mem
  have ex : vs.toArray[i]? = none := by
    rw [Array.getElem?_eq_none_iff, List.size_toArray, kv.length]; exact hx
  have hT : s.TypeIs (.ref it) "list_iterator" := ⟨o, ho, hc⟩
  refine call_function_entry (by decide +kernel) (by decide +kernel) kdk_entry_next (kdk_args_next _) ?_
  unfold Builtin.«next»
  refine wpAny_bind (m := someArgs "next" 1 2 _) (wpAny_of_eq (a := [Value.ref it]) (by first | rfl | kernel_rfl!) ?_)
  dsimp only
  refine wpAny_bind (wpAny_specialOf (name := Str.ofString "__next__") hT slot_listiter_next.lookup ?_)
  refine wpAny_ite_split (fun hab => absurd hab (by decide)) (fun _ => ?_)
  refine wpAny_bind (wpAny_callSpecial?_slot (name := Str.ofString "__next__") hT slot_listiter_next
    (wpAny_call_entry slot_listiter_next hT entry_listiter_next ?_ (args_listiter_next _)))
  show wpAny _ _ (field (.ref it) 0 >>= _) _ _ s
  refine wpAny_bind (wpAny_field ho hd (x := .ref l) rfl ?_)
  show wpAny _ _ (if (Value.ref l == Value.none) = true then _ else _) _ _ s
  rw [if_neg (show ¬ ((Value.ref l == Value.none) = true) from Bool.false_ne_true)]
  show wpAny _ _ (field (.ref it) 1 >>= _) _ _ s
  refine wpAny_bind (wpAny_field ho hd (x := .int i 0) rfl ?_)
  show wpAny _ _ (seqItems? (.ref l) >>= _) _ _ s
  refine wpAny_bind (wpAny_seqItems (D.gh _ _ el) rfl ?_)
  simp only [Int.toNat_natCast, ex]
  refine wpAny_bind (wpAny_rule (wpAny_bind (wpAny_setField ho hd (by simp) ?_)))
  show wpAny _ _ (newExc (.type "StopIteration") [] >>= _) _ _ _
  refine wpAny_bind ?_
  simp only [newExc, newTuple]
  have D₁ := D.up U (Heap.SameBut.update s.heap it (Obj.mapFields (·.setIfInBounds 0 .none))) (Heap.get?_update_self _ ho (Obj.isFreed_of_fields (Obj.data_mapFields hd _))) trivial
  have D₂ := D₁.push (o := tupOf [] 0) (x := .ex _) rfl rfl
  obtain ⟨o₃, i₃, D₃, s₃, e₃⟩ := D₂.freeze (.take .all) (D₁.none_of (Heap.get?_push_self_none _))
  have i₃ : o₃ = tupOf [] 0 := i₃
  subst i₃
  refine wpAny_bind (wpAny_newObj_type ?_ (by size_fits))
  refine wpAny_bind (m := firstArgMember _ _) (wpAny_of_eq (a := Value.none) (by first | rfl | (simp only [firstArgMember]; rfl)) ?_)
  refine wpAny_newObj_type ?_ (by size_fits)
  simp only [raiseNew]
  refine wpAny_bind (wpAny_handled ?_)
  rw [show A.in1.in1.handled = none from hh]
  refine wpAny_bind (wpAny_pure (wpAny_throw ⟨k _ _ _ _ (D₃.push (x := .exc "StopIteration" _ none) rfl ⟨rfl, _, rfl, rfl, rfl, rfl⟩) s₃ e₃ (D₁.none_of ?_), hr⟩))
  exact (Al.of fun b o e => Heap.get?_push_of_some _ e).none (Heap.get?_push_self_none _)⟩
end
section
variable {c : GC} {A : Around} {env : Env} {r : Rec} {g : FB} {own own' : Led} {L a : Addr} {loc loc' : Loc} {h : Heap} {d : Dt} {v w : Value} {pos apos pos' : Pos} {E : Value → Heap → Prop} {ds ds₀ es : List Dt} {o e le re : Expr} {rest : List Stmt} {Q : Flow → Heap → Prop}
theorem sAppendW (D : St c r g own L loc h) (po : EvD c A env o g h (.ref a)) (hm : (a, .lst ds₀) ∈ own)
    (W : ∀ g₁ h₁, St c r g₁ own L loc h₁ → Sub g g₁ → ∀ Z : Value → Heap → Prop, (∀ v g₂ own₂ own₃ ds d h₂, St c r g₂ own₂ L loc h₂ → Den g₂ v d → Up a (.lst ds) (.lst (ds ++ [d])) own₂ own₃ → ds.length < sizeLine →
      (∀ g₃ h₃, St c r g₃ own₃ L loc h₃ → Sub g₂ g₃ → Wp c A (execs rest env) Q E h₃) → Z v h₂) → Wp c A (eval e env) Z E h₁)
    (hi : interactive env = false) (hs : swapsWith (.Call (.Attribute o "append" apos) [e] [] pos) none pos'.line env = pure false) (hbase : attributeBase o "append" env (eval o env) = eval o env) (hse : starEach [e] env = [(false, eval e env)]) (hline : (apos.endLine == pos.line) = true) :
    Wp c A (execs (.Expr (.Call (.Attribute o "append" apos) [e] [] pos) pos' :: rest) env) Q E h := by
  have hb : backTo pos (starEach [e] env) = [(false, eval e env)] := by rw [hse]; rfl
  refine sExpr (Wp_meth PySem.F.plainAttrs_list PySem.F.slot_list_append PySem.F.type_list_append (po.wp D fun ov g₁ h₁ D₁ G₁ p => ?_) hbase (by rw [hb]; rfl) hline (by rw [hb]; rfl) (.inr ⟨_, _, hb⟩)) hi hs
  cases p.ref_inv
  exact ⟨D₁.lstType hm, Wa_cons (W g₁ h₁ D₁ G₁.sub _ fun v g₂ own₂ own₃ ds d h₂ D₂ dv U hsz k => Wa_nil (Wp_append D₂ dv U hsz fun h' D' => ⟨rfl, k g₂ h' D' .rfl⟩)) hse⟩
end
theorem Up.same {d : Addr} {x : OC} : ∀ {l : Led}, (d, x) ∈ l → Up d x x l l
  | p :: l, h => by
    rcases List.mem_cons.mp h with rfl | h
    · exact .head
    · exact .tail (Up.same h)
noncomputable def cb (e : Value) (env : Env) : Sem Unit := do
  if (← field e 1) == .none then unsupported "frame.own-activation:exception-without-traceback"
  setFlight e env.frame
noncomputable def LE (c : GC) (A : Around) (env : Env) (E : Value → Heap → Prop) : Value → Heap → Prop := fun e h => Wp c A (noteFrame e env) (fun _ h₂ => Wp c A (cb e env) (fun _ h₃ => E e h₃) NoE h₂) NoE h
section
variable {c : GC} {A : Around} {env : Env} {h : Heap} {pos : Pos} {E : Value → Heap → Prop} {Q : Flow → Heap → Prop} {rest body orelse : List Stmt} {test : Expr}
theorem LE.out {e : Value} {s : Shared} (x : LE c A env E e s.heap) (hr : Rest c s) :
    notedBy (Mo c) A env (fun e s' => cameBackBy (Mo c) A env (fun e s' => E e s'.heap ∧ Rest c s') e s') e s := by
  refine wpAny_mono (x.run s rfl hr) (fun _ s₂ ⟨y, r₂⟩ => ?_) fun _ _ y => y.1.elim
  exact wpAny_mono (y.run s₂ rfl r₂) (fun _ s₃ z => z) fun _ _ y => y.1.elim
theorem sWhileX (J : Nat → Heap → Prop) (n : Nat) (h0 : J n h)
    (turn : ∀ n h, J n h → Wp c A (isTrue test env (eval test env)) (fun b h₂ => if b then Wp c A (execs body env) (fun f h₃ => match f with
      | .next | .cont => ∃ m, m < n ∧ J m h₃
      | .brk => Wp c A (execs rest env) Q E h₃
      | .ret v => Q (.ret v) h₃) (LE c A env E) h₂ else Wp c A (execs rest env) Q E h₂) (LE c A env E) h) : Wp c A (execs (.While test body [] pos :: rest) env) Q E h :=
  sCons ⟨fun s hs hr => wpAny_While (by
    refine codeAny_whileLoop (fun n s => J n s.heap ∧ Rest c s) (fun n s ⟨j, r⟩ => ?_) n ⟨hs ▸ h0, hr⟩
    refine wpAny_mono ((turn n s.heap j).run s rfl r) (fun b s₂ ⟨y, r₂⟩ => ?_) fun _ _ y => y.1.out y.2
    cases b with
    | true =>
      rw [if_pos rfl] at y ⊢
      refine wpAny_mono (y.run s₂ rfl r₂) (fun f s₃ ⟨z, r₃⟩ => ?_) fun _ _ y => y.1.out y.2
      cases f with
      | next => obtain ⟨m, hm, jm⟩ := z; exact ⟨m, hm, jm, r₃⟩
      | cont => obtain ⟨m, hm, jm⟩ := z; exact ⟨m, hm, jm, r₃⟩
      | brk => exact ⟨z, r₃⟩
      | ret v => exact ⟨z, r₃⟩
    | false =>
      rw [if_neg (by simp)] at y ⊢
      exact wpAny_execs_nil ⟨y, r₂⟩)⟩
theorem sTry {h₀ : ExceptHandler} {hs : List ExceptHandler}
    (x : Wp c A (execs body env) (fun f h₁ => match f with | .next => Wp c A (execs orelse env) (Sq c A env rest Q E) E h₁ | f => Q f h₁)
      (fun e h₁ => Wp c A (noteFrame e env) (fun _ h₂ => Wp c A (setFlight e none) (fun _ h₃ => Wp c A (handleBy e env (h₀ :: hs)) (Sq c A env rest Q E) E h₃) E h₂) E h₁) h) :
    Wp c A (execs (.Try body (h₀ :: hs) orelse [] pos :: rest) env) Q E h :=
  sCons ⟨fun s hs' hr => wpAny_Try_except (wpAny_mono (x.run s hs' hr) (fun f s₁ ⟨y, r₁⟩ => by
    cases f with
    | next => exact y.run s₁ rfl r₁
    | cont => exact ⟨y, r₁⟩
    | brk => exact ⟨y, r₁⟩
    | ret v => exact ⟨y, r₁⟩) fun e s₁ ⟨y, r₁⟩ => y.wpAny_of rfl r₁ fun _ s₂ y r₂ => y.wpAny_of rfl r₂ fun _ s₃ y r₃ => y.run s₃ rfl r₃)⟩
end
section
variable {c : GC} {A : Around} {env : Env} {r : Rec} {g : FB} {own own₁ : Led} {ow : Addr → Led} {L a e T : Addr} {loc loc' : Loc} {h h' : Heap} {X : String} {t0 : Addr} {hd : Option Addr} {x : Value} {E : Value → Heap → Prop} {Q : Unit → Heap → Prop}
theorem Wp_loopOut (D : St c r g own L loc h) (H : Hot A env own₁ L) (V : Up T (.tb x) (.tb .none) own own₁) (he : (e, OC.exc X t0 (some T)) ∈ own) (hx : x ≠ rawInt L) (U : ∀ T', Up e (.exc X t0 (some T)) (.exc X t0 (some T')) own₁ (ow T'))
    (k : ∀ T' h', St c r g ((T', .tb (rawInt L)) :: ow T') L loc h' → E (.ref e) h') : LE c A env E (.ref e) h := by
  refine Wp_note1 D H V he hx U fun T' h₂ D₂ => ⟨fun s hs hr => ?_⟩
  subst hs
  have U' := Up.tail (p := (T', OC.tb (rawInt L))) (U T')
  have he' : (e, OC.exc X t0 (some T')) ∈ (T', OC.tb (rawInt L)) :: ow T' := by
    have := U T'
    obtain ⟨pre, post, _, e2⟩ := this.split
    rw [e2]; exact .tail _ (List.mem_append_right _ (.head _))
  obtain ⟨o, eo, oc, vs, od, v0, v1, v2⟩ := D₂.get he'
  obtain ⟨oT, eT, ts, oTd, t3⟩ := D₂.get (.head _)
  unfold cb
  refine wpAny_bind (wpAny_field eo od v1 ?_)
  rw [if_neg (by simp)]
  unfold setFlight
  refine wpAny_bind (wpAny_field eo od v1 ?_)
  rw [if_pos (by simp)]
  rw [H.f]
  exact wpAny_setField eT oTd (Array.getElem?_eq_some_iff.mp t3).1 ⟨k T' _ (D₂.up .head (Heap.SameBut.update s.heap T' _) (Heap.get?_update_self _ eT (Obj.isFreed_of_fields (Obj.data_mapFields oTd _))) ⟨_, Obj.data_mapFields oTd _, by simp [(Array.getElem?_eq_some_iff.mp t3).1]⟩), hr⟩
theorem Wp_note2 (D : St c r g own L loc h) (hf : env.frame = some L) (he : (e, OC.exc X t0 (some T)) ∈ own) (hT : (T, OC.tb (rawInt L)) ∈ own) (k : Q () h) : Wp c A (noteFrame (.ref e) env) Q E h := ⟨fun s hs hr => by
  subst hs
  obtain ⟨o, eo, oc, vs, od, v0, v1, v2⟩ := D.get he
  obtain ⟨oT, eT, ts, oTd, t3⟩ := D.get hT
  exact wpAny_noteFrame_inFlight hf eo od v1 eT oTd t3 ⟨k, hr⟩⟩
theorem Wp_handle {Q : Flow → Heap → Prop} {T' : String} {t : Expr} {b₀ : Stmt} {suite : List Stmt} {pos : Pos} {rest : List ExceptHandler} (D : St c r g own L loc h) (he : (e, OC.exc X t0 (some T)) ∈ own) (hT : (T, OC.tb .none) ∈ own)
    (hexc : isSubtype (.type T') (.type "BaseException") = pure true) (hnt : isSubtype (.type ((Manifest.find? T').elim "type" fun x => x.metatype)) (.type "tuple") = pure false) (hsub : isSubtype (.type X) (.type T') = pure true)
    (ht : Ev c (A.mark (some (.ref e))) (eval t env) g h fun _ _ v => v = .type T')
    (k : ∀ g' h', St c r g' own L loc h' → Sub g g' → Wp c (A.mark (some (.ref e))) (execs (b₀ :: suite) env) Q NoE h') : Wp c A (handleBy (.ref e) env (.ExceptHandler (some t) none (b₀ :: suite) pos :: rest)) Q E h := ⟨fun s hs hr => by
  have W := ht.wp (Q := fun v h' => v = .type T' ∧ ∃ g', St c r g' own L loc h' ∧ Sub g g') (E := NoE) D fun v g' h' D' G ev => ⟨ev, g', D', G.sub⟩
  refine wpAny_handleBy_builtin hexc hnt hsub (wpAny_mono (W.run s hs hr) (fun v s₁ ⟨⟨ev, g', D', s'⟩, r₁⟩ => ⟨ev, ?_, ?_⟩) fun _ _ y => y.1.elim)
  · obtain ⟨o, eo, oc, _⟩ := D'.get he
    exact ⟨o, eo, oc⟩
  · rw [if_pos rfl]
    have F := Wp_flight (A := A.mark (some (.ref e))) (E := NoE) (Q := fun _ h' => Wp c (A.mark (some (.ref e))) (execs (b₀ :: suite) env) Q NoE h') D' he (.same hT) fun h'' D'' => k g' h'' D'' s'
    exact wpAny_mono (F.run s₁ rfl r₁) (fun _ s₂ ⟨y, r₂⟩ => wpAny_mono (y.run s₂ rfl r₂) (fun _ _ z => z) fun _ _ z => z.1.elim) fun _ _ y => y.1.elim⟩
theorem Wp_handleAs {Q : Flow → Heap → Prop} {T' : String} {t : Expr} {n : Str} {b₀ : Stmt} {suite : List Stmt} {pos : Pos} {rest : List ExceptHandler} (D : St c r g own L loc h) (F : Fn env L) (he : (e, OC.exc X t0 (some T)) ∈ own) (hT : (T, OC.tb .none) ∈ own)
    (hexc : isSubtype (.type T') (.type "BaseException") = pure true) (hnt : isSubtype (.type ((Manifest.find? T').elim "type" fun x => x.metatype)) (.type "tuple") = pure false) (hsub : isSubtype (.type X) (.type T') = pure true) (hn : env.kindOf n = some .local)
    (ht : Ev c (A.mark (some (.ref e))) (eval t env) g h fun _ _ v => v = .type T')
    (k : ∀ g' h', St c r g' own L ((n, .ref e) :: loc) h' → Sub g g' → ∀ Z : Flow → Heap → Prop, (∀ f g₄ own₄ loc₄ h₄, St c r g₄ own₄ L loc₄ h₄ → loc₄.lookup n = none → (∀ h₅, St c r g₄ own₄ L loc₄ h₅ → Q f h₅) → Z f h₄) → Wp c (A.mark (some (.ref e))) (execs (b₀ :: suite) env) Z NoE h') :
    Wp c A (handleBy (.ref e) env (.ExceptHandler (some t) (some n) (b₀ :: suite) pos :: rest)) Q E h := ⟨fun s hs hr => by
  have W := ht.wp (Q := fun v h' => v = .type T' ∧ ∃ g', St c r g' own L loc h' ∧ Sub g g') (E := NoE) D fun v g' h' D' G ev => ⟨ev, g', D', G.sub⟩
  refine wpAny_handleBy_builtin_as hexc hnt hsub (wpAny_mono (W.run s hs hr) (fun v s₁ ⟨⟨ev, g', D', s'⟩, r₁⟩ => ⟨ev, ?_, ?_⟩) fun _ _ y => y.1.elim)
  · obtain ⟨o, eo, oc, _⟩ := D'.get he
    exact ⟨o, eo, oc⟩
  · rw [if_pos rfl]
    have no : ∀ {P : Value → Shared → Prop} (e : Value) (s' : Shared), (NoE e s'.heap ∧ Rest c s') → P e s' := fun _ _ y => y.1.elim
    have W2 := Wp_flight (A := A.mark (some (.ref e))) (E := NoE) (Q := fun _ h₂ => ∀ s₂ : Shared, s₂.heap = h₂ → Rest c s₂ → St c r g' own L loc s₂.heap) D' he (.same hT) fun h₂ D₂ s₂ e₂ r₂ => e₂ ▸ D₂
    refine wpAny_mono (W2.run s₁ rfl r₁) (fun _ s₂ y => ?_) no
    have D₂ := y.1 s₂ rfl y.2
    refine wpAny_mono ((Wp_storeL (E := NoE) (Q := fun _ h₃ => St c r g' own L ((n, .ref e) :: loc) h₃) D₂ (.ref e) F hn fun h₃ D₃ => D₃).run s₂ rfl y.2) (fun _ s₃ z => ?_) no
    refine wpAny_mono ((k g' s₃.heap z.1 s' (fun f h₄ => ∀ s₄ : Shared, s₄.heap = h₄ → Rest c s₄ → wpAny (Mo c) A (do bindName env n .none; unbindBehindTheSuite env n pos) (fun _ s₅ => Q f s₅.heap ∧ Rest c s₅) (fun e s' => E e s'.heap ∧ Rest c s') s₄) fun f g₄ own₄ loc₄ h₄ D₄ hl y s₄ e₄ r₄ => ?_).run s₃ rfl z.2) (fun f s₄ z => z.1 s₄ rfl z.2) no
    subst e₄
    obtain ⟨m, nsm, km⟩ := D₄.ns
    have hL := F.L
    subst hL
    refine wpAny_nameGoes_keeps hn nsm (by rw [F.k]; rfl) fun h₅ v hns hsb => ⟨y h₅ (D₄.store ⟨_, hns, fun z d hz => ?_⟩ hsb), r₄⟩
    obtain ⟨w, e1, e2⟩ := km z d hz
    refine ⟨w, ?_, e2⟩
    rw [if_neg (fun q => by rw [q, hl] at hz; cases hz)]
    exact e1⟩
end
section
variable {c : GC} {A : Around} {env : Env} {r : Rec} {g : FB} {own own' : Led} {L it l : Addr} {loc : Loc} {h : Heap} {i : Nat} {ds : List Dt} {d : Dt} {Q : Value → Heap → Prop} {E : Value → Heap → Prop} {e : Expr} {x : Str} {p pos : Pos}
theorem Wp_callNext (D : St c r g own L loc h) (hf : Ev c A (eval (.Name x p) env) g h fun _ _ v => v = .builtin "next") (po : EvD c A env e g h (.ref it)) (hse : starEach [e] env = [(false, eval e env)]) (U : Up it (.lit l i) (.lit l (i + 1)) own own') (F : FzL g l ds) (hx : ds[i]? = some d)
    (k : ∀ v g' h', St c r g' own' L loc h' → Sub g g' → Den g' v d → Q v h') : Wp c A (eval (.Call (.Name x p) [e] [] pos) env) Q E h := by
  have hb : backTo pos (starEach [e] env) = [(false, eval e env)] := by rw [hse]; rfl
  refine Wp_Call hf D.gr fun g₂ h₃ G₂ => Wp_callB (by rw [hb]; rfl) (.inr ⟨_, _, hb⟩) (Wa_cons ((po.up G₂).wp (D.grow G₂) fun v g₃ h₄ D₃ G₃ dv => Wa_nil ?_) hse)
  cases dv.ref_inv
  exact Wp_nextI D₃ U ((F.mono G₂.sub).mono G₃.sub) hx fun v h' D' dv => k v g₃ h' D' (G₂.sub.trans G₃.sub) dv
theorem Wp_callNextE (D : St c r g own L loc h) (hh : A.handled = none) (hf : Ev c A (eval (.Name x p) env) g h fun _ _ v => v = .builtin "next") (po : EvD c A env e g h (.ref it)) (hse : starEach [e] env = [(false, eval e env)]) (U : Up it (.lit l i) (.pr fun _ => True) own own') (F : FzL g l ds) (hx : ds.length ≤ i)
    (k : ∀ e t0 g' h', St c r g' ((e, .exc "StopIteration" t0 none) :: own') L loc h' → Sub g g' → g' t0 = some (tupOf [] 0) → r.h.get? e = none → E (.ref e) h') : Wp c A (eval (.Call (.Name x p) [e] [] pos) env) Q E h := by
  have hb : backTo pos (starEach [e] env) = [(false, eval e env)] := by rw [hse]; rfl
  refine Wp_Call hf D.gr fun g₂ h₃ G₂ => Wp_callB (by rw [hb]; rfl) (.inr ⟨_, _, hb⟩) (Wa_cons ((po.up G₂).wp (D.grow G₂) fun v g₃ h₄ D₃ G₃ dv => Wa_nil ?_) hse)
  cases dv.ref_inv
  exact Wp_nextE hh D₃ U ((F.mono G₂.sub).mono G₃.sub) hx fun e t0 g' h' D' s ht hn => k e t0 g' h' D' ((G₂.sub.trans G₃.sub).trans s) ht hn
end
theorem Ret.perm {r : Rec} {g : FB} {own own' : Led} {h : Heap} (D : Ret r g own h) (p : own'.Perm own) : Ret r g own' h :=
  ⟨D.gh, fun q hq => D.ow q (p.mem_iff.mp hq), (p.map _).nodup_iff.mpr D.nd, D.g0, D.fr, D.kp, fun q hq => D.os q (p.mem_iff.mp hq), D.al⟩
noncomputable abbrev dct1 (P : Params) (k : Str) (t : Tok) (u : Value) (n : Nat) : Obj := dictOf [⟨PyData.keyHash P k, .str k t, u⟩] n
section
variable {prog : Program} {w : World} {A : Around} {E : Value → Shared → Prop} {s : Shared} {d D : Addr} {k : Str} {t : Tok} {u : Value} {n : Nat}
theorem putName1 {hh : Int} {key v : Value} : Obj.putName k hh key v (dictOf [] 0) = dictOf [⟨hh, key, v⟩] 1 := by rw [putName_dict]; rfl
theorem wp_fill1 {Q : Unit → Shared → Prop} (ho : s.heap.get? d = some (dictOf [] 0))
    (h : ∀ h', Heap.SameBut d s.heap h' → h'.get? d = some (dct1 w.params k s.toks u 1) → Q () { s with heap := h', toks := s.toks + 1 }) : wpAny (model prog w) A (nsSet d k u) Q E s := by
  unfold nsSet
  refine wpAny_bind (wpAny_bind (wpAny_askSetting (wpAny_pure (wpAny_bind (wpAny_mkText (wpAny_bind (wpAny_loadPart ho ?_)))))))
  dsimp only
  rw [show aRefKeyMayBeTheName k ([] : List DictEntry).toArray = false by rw [aRefKeyMayBeTheName_at]; simp]
  refine wpAny_updatePart ho (h _ (Heap.SameBut.update ..) ?_)
  rw [Heap.get?_update_self _ ho (by rw [putName1]; rfl), putName1]
  rfl
theorem wp_for1 {α β γ : Type} {e : α} {b0 : β} {body : α → β → Sem (ForInStep β)} {kk : β → Sem γ} {Q : γ → Shared → Prop} {M : Model} (b1 : β)
    (h : wpAny M A (body e b0) (fun st s' => st = .yield b1 ∧ wpAny M A (kk b1) Q E s') E s) : wpAny M A (forIn [e] b0 body >>= kk) Q E s := by
  refine wpAny_bind ?_
  rw [List.forIn_cons]
  refine wpAny_bind (wpAny_mono h (fun st s' x => ?_) fun _ _ y => y)
  rw [x.1]
  exact wpAny_pure x.2
theorem wp_forA {α β γ : Type} {e : α} {b0 : β} {body : α → β → Sem (ForInStep β)} {kk : β → Sem γ} {Q : γ → Shared → Prop} {M : Model} (b1 : β)
    (h : body e b0 = pure (.yield b1)) (hk : wpAny M A (kk b1) Q E s) : wpAny M A (forIn [e].toArray b0 body >>= kk) Q E s := by
  rw [List.forIn_toArray]
  exact wp_for1 b1 (h ▸ wpAny_pure ⟨rfl, hk⟩)
theorem wp_merge1 {Q : Unit → Shared → Prop} (hd : s.heap.get? d = some (dictOf [] 0)) (hD : s.heap.get? D = some (dct1 w.params k t u n)) (hm : (D == sysModules) = false) (hne : d ≠ D)
    (h : ∀ h', Heap.SameBut d s.heap h' → h'.get? d = some (dct1 w.params k t u 1) → Q () { s with heap := h' }) : wpAny (model prog w) A (mergeMapping d (.ref D) true) Q E s := by
  have hT : s.TypeIs (.ref D) "dict" := ⟨_, hD, rfl⟩
  unfold mergeMapping
  refine wpAny_bind (wpAny_isInstance hT isSubtype_dict_dict (wp_iteT rfl (wpAny_bind (wpAny_specialOf hT F.slot_dict_iter.lookup (wpAny_bind (wpAny_pure ?_))))))
  refine wp_ite hm (wpAny_bind (wpAny_dictEntries hd rfl ?_))
  refine wp_iteT rfl (wpAny_bind (wpAny_dictEntries hD rfl ?_))
  refine wp_forA PUnit.unit rfl ?_
  refine wpAny_bind (wpAny_dictEntries hD rfl (wpAny_bind (wpAny_dictEpoch hD rfl ?_)))
  refine wp_for1 (e := 0) PUnit.unit ?_
  refine wpAny_bind (wpAny_dictEntries hD rfl ?_)
  refine wpAny_bind (wpAny_holding ?_)
  refine wp_iteT rfl (wpAny_bind (KTD.kt_dictFind_strs hd rfl (by simp) ?_))
  refine wp_ite (by simp) ?_
  have hD' : (s.heap.update d (Obj.mapDictKeys fun x => x.push ⟨PyData.keyHash w.params k, .str k t, u⟩)).get? D = some (dct1 w.params k t u n) := (Heap.get?_update_other _ _ hne).trans hD
  refine wpAny_bind (KTD.kt_dictFind_strs hd rfl (by simp) ?_)
  rw [show (([] : List DictEntry).toArray.findIdx? fun e => e.key.isStr k) = none by simp]
  refine wpAny_updateDictKeys hd rfl (wpAny_bind (wpAny_dictEpoch hD' rfl ?_))
  refine wp_ite (by simp) (wpAny_pure ⟨rfl, wpAny_pure (h _ (Heap.SameBut.update ..) ?_)⟩)
  rw [Heap.get?_update_self _ hd rfl]
  rfl
theorem wp_merged1 {f : Value} {kx : Sem Value} {Q : Addr → Shared → Prop} (hm : (D == sysModules) = false) (hne : s.heap.objs.size ≠ D)
    (h : ∀ Z : Value → Shared → Prop, (∀ s₁ : Shared, s₁.heap.get? s.heap.objs.size = some (dictOf [] 0) → s₁.heap.get? D = some (dct1 w.params k t u n) →
      (∀ h', Heap.SameBut s.heap.objs.size s₁.heap h' → h'.get? s.heap.objs.size = some (dct1 w.params k t u 1) → Q s.heap.objs.size { s₁ with heap := h' }) → Z (.ref D) s₁) → wpAny (model prog w) A kx Z E { s with heap := s.heap.push (dictOf [] 0) }) :
    wpAny (model prog w) A (mergedKeywords f [(none, kx)]) Q E s := by
  unfold mergedKeywords
  refine wpAny_bind (wpAny_alloc (wpAny_bind (wpAny_holding (wp_for1 (e := ((none : Option Str), kx)) [] ?_))))
  refine wpAny_bind (wpAny_pure (wpAny_bind (h _ fun s₁ e1 e2 hQ => wpAny_bind (wpAny_onRaise (wpAny_holding (wpAny_tryCatch (wpAny_onRaise (wp_merge1 e1 e2 hm hne fun h' hs ho => ?_))))))))
  exact wpAny_pure ⟨rfl, wpAny_pure (wpAny_pure (hQ h' hs ho))⟩
theorem wp_keywordsIn {f : Value} {Q : List (Str × Value) → Shared → Prop} (hd : s.heap.get? d = some (dct1 w.params k t u n)) (h : Q [(k, u)] s) : wpAny (model prog w) A (keywordsIn f d) Q E s := by
  exact wpAny_bind (wpAny_dictEntries hd rfl (wp_forA [(k, u)] rfl (wpAny_pure h)))
end
theorem Pre.gr {c : GC} {g g₁ : FB} {mu : Led} {h h₁ : Heap} (P : Pre c g mu h) (G : Gr g h g₁ h₁) : Pre c g₁ mu h₁ :=
  ⟨fun a o e => G.sub _ _ (P.cb a o e), G.gh, fun p hp => (by
    obtain ⟨⟨o, e, i⟩, n⟩ := P.ow p hp
    refine ⟨⟨o, G.kp _ _ e, i.mono G.sub⟩, ?_⟩
    cases q : g₁ p.1 with
    | none => rfl
    | some o' =>
      rcases G.fr _ _ q with z | z
      · rw [n] at z; cases z
      · rw [e] at z; cases z), P.nd⟩
theorem St.fromGr {c : GC} {g g₁ g' : FB} {h h₁ h' : Heap} {ks : List Addr} {own : Led} {L : Addr} {loc : Loc} (G : Gr g h g₁ h₁) (D : St c ⟨g₁, h₁, ks⟩ g' own L loc h') : St c ⟨g, h, ks⟩ g' own L loc h' := by
  have nn : ∀ a, h₁.get? a = none → h.get? a = none := fun a e => (Al.of G.kp).none e
  refine ⟨⟨D.gh, D.ow, D.nd, G.sub.trans D.g0, fun a o e => ?_, fun a o ha e => D.kp a o ha (G.kp _ _ e), fun p hp => ?_, (Al.of G.kp).trans D.al⟩, D.cb, D.ns, D.gL, D.oL, nn _ D.Lr⟩
  · rcases D.fr a o e with q | q
    · exact G.fr a o q
    · exact .inr (nn _ q)
  · rcases D.os p hp with q | q
    · exact .inl q
    · exact .inr (nn _ q)
section
variable {c : GC} {A : Around} {g : FB} {mu : Led} {h : Heap} {R : Result → Heap → Prop} {f : Addr} {args : Args} {binds : List (Str × Value)} {bd : Loc}
  {name qual : Str} {params : Arguments} {body : List Stmt} {scope : Scope} {cl : List (Str × Addr)} {dV kV doc pm cdv ct oc : Value} {an od : Option Addr} {osl : Array (Option Value)} {fo : Obj}
theorem enterB {BP : List (Str × Value) → FB → Prop} {bd : List (Str × Value) → Loc} (P : Pre c g mu h)
    (ho : (hd.heap_1 c.w.params).lookup f = some ⟨oc, od, .func (fnX name qual params body scope [] dV kV doc pm an cdv ct), osl⟩)
    (hcd : codeIn (hd.heap_1 c.w.params) cdv qual = true) {dd uu : Nat} (hroom : Rm A (dd + 1) (uu + 3))
    (hbind : ∀ (s : Shared) (E : Value → Shared → Prop) (Q : List (Str × Value) → Shared → Prop), s.heap = h → (∀ binds g₁ h₁ tk, Gr g h g₁ h₁ → BP binds g₁ → Q binds { s with heap := h₁, toks := tk }) → wpAny (Mo c) A.in1 (bindArgs (fnX name qual params body scope [] dV kV doc pm an cdv ct) args) Q E s)
    (hloc : ∀ binds g₁, BP binds g₁ → ∀ y ∈ binds, scope.names.lookup y.1 = some .local)
    (hcell : ∀ x ∈ scope.names, x.2 ≠ .cell) (hco : scope.isCoroutine = false) (hgen : scope.isGenerator = false) (hk : scope.kind = .function)
    (hb : ∀ binds g₁, BP binds g₁ → ∀ x d, (bd binds).lookup x = some d → ∃ v, binds.reverse.lookup x = some v ∧ Den g₁ v d)
    (k : ∀ binds g₁ L h₁, BP binds g₁ → St c ⟨g, h, mu.map (·.1)⟩ g₁ mu L (bd binds) h₁ → Fn (envX qual scope L f cdv []) L → Rm (A.deeper (envX qual scope L f cdv [])) dd uu → Wp c (A.deeper (envX qual scope L f cdv [])) (execs body (envX qual scope L f cdv [])) (fun fl h' => R (.ok (.ret (match fl with | .ret v => v | _ => .none))) h') NoE h₁) :
    Cd c A (.call (.ref f) args) R h := ⟨fun s hs hr => by
  refine codeAny_call_function (fd := fnX name qual params body scope [] dV kV doc pm an cdv ct) (body := body) (Nat.lt_of_le_of_lt (Nat.le_add_right _ _) hroom.d) (hs ▸ P.bas.keep _ _ (c.X _ _ ho)) rfl hco hgen rfl (codeRec_of (c.X.keeps (hs ▸ P.bas.keep)) hcd) ?_
  refine hbind s _ _ hs fun binds g₁ h₁ tk G bp => ?_
  have P₁ := P.gr G
  refine wpAny_newFunctionEnv hcell (hloc binds g₁ bp) (fun h₂ hns hsb => ⟨(c.T.nolimit.keeps P₁.bas.keep).fresh _ hsb, ?_⟩) hk
  have hk₁ : ∀ b o, h₁.get? b = some o → h₂.get? b = some o := fun b o e => hsb.extBut b o (Nat.ne_of_lt (Heap.lt_size e)) (Heap.get?_push_of_some _ e)
  have hL : h₁.get? h₁.objs.size = none := Heap.get?_push_self_none _
  have D : St c ⟨g₁, h₁, mu.map (·.1)⟩ g₁ mu h₁.objs.size (bd binds) h₂ := by
    refine ⟨⟨fun a o e => hk₁ _ _ (P₁.gh _ _ e), fun p hp => ?_, P₁.nd, .rfl, fun _ _ e => .inl e, fun a o _ e => hk₁ _ _ e, fun p hp => .inl (List.mem_map_of_mem hp), .of hk₁⟩, P₁.cb, ⟨_, hns, hb binds g₁ bp⟩, FB.none_of P₁.gh hL, fun p hp e => ?_, hL⟩
    · obtain ⟨⟨o, e, i⟩, n⟩ := P₁.ow p hp
      exact ⟨⟨o, hk₁ _ _ e, i⟩, n⟩
    · obtain ⟨⟨o, e', i⟩, n⟩ := P₁.ow p hp
      rw [e, hL] at e'; cases e'
  exact codeAny_func (wpAny_mono ((k binds g₁ _ _ bp (D.fromGr G) ⟨hk, rfl, rfl, rfl⟩ (hroom.deeper _)).run _ rfl hr) (fun _ _ y => y) fun _ _ y => y.1.elim)⟩
theorem enterLam {e : Expr} {c' : Addr} (P : Pre c g mu h) (ho : g f = some (fnM name qual params (.expr e) scope cl pm c' ct)) (K : CodeK g c' qual) {dd uu : Nat} (hroom : Rm A (dd + 1) (uu + 3))
    (hbind : bindArgs (kla_fn name qual params e scope cl pm (.ref c') ct) args = pure binds) (hloc : ∀ y ∈ binds, scope.names.lookup y.1 = some .local)
    (hcell : ∀ x ∈ scope.names, x.2 ≠ .cell) (hco : scope.isCoroutine = false) (hgen : scope.isGenerator = false) (hk : scope.kind = .function)
    (hb : ∀ x d, bd.lookup x = some d → ∃ v, binds.reverse.lookup x = some v ∧ Den g v d)
    (k : ∀ L h₁, St c ⟨g, h, mu.map (·.1)⟩ g mu L bd h₁ → Fn (envX qual scope L f (.ref c') cl) L → Rm (A.deeper (envX qual scope L f (.ref c') cl)) dd uu → Wp c (A.deeper (envX qual scope L f (.ref c') cl)) (eval e (envX qual scope L f (.ref c') cl)) (fun v h' => R (.ok (.ret v)) h') NoE h₁) :
    Cd c A (.call (.ref f) args) R h := ⟨fun s hs hr => by
  subst hs
  obtain ⟨occ, vs, t, ec, hd, hv⟩ := K
  refine kla_callFunE (fd := kla_fn name qual params e scope cl pm (.ref c') ct) (Nat.lt_of_le_of_lt (Nat.le_add_right _ _) hroom.d) (P.gh _ _ ho) rfl hco hgen rfl ⟨c', occ, vs, t, rfl, P.gh _ _ ec, hd, hv⟩ ?_
  rw [hbind]
  refine wpAny_pure (wpAny_newFunctionEnv hcell hloc (fun h₁ hns hsb => ⟨(c.T.nolimit.keeps P.bas.keep).fresh _ hsb, ?_⟩) hk)
  have hk₁ : ∀ b o, s.heap.get? b = some o → h₁.get? b = some o := fun b o e => hsb.extBut b o (Nat.ne_of_lt (Heap.lt_size e)) (Heap.get?_push_of_some _ e)
  have hL : s.heap.get? s.heap.objs.size = none := Heap.get?_push_self_none _
  have D : St c ⟨g, s.heap, mu.map (·.1)⟩ g mu s.heap.objs.size bd h₁ := by
    refine ⟨⟨fun a o e => hk₁ _ _ (P.gh _ _ e), fun p hp => ?_, P.nd, .rfl, fun _ _ e => .inl e, fun a o _ e => hk₁ _ _ e, fun p hp => .inl (List.mem_map_of_mem hp), .of hk₁⟩, P.cb, ⟨_, hns, hb⟩, FB.none_of P.gh hL, fun p hp e => ?_, hL⟩
    · obtain ⟨⟨o, e, i⟩, n⟩ := P.ow p hp
      exact ⟨⟨o, hk₁ _ _ e, i⟩, n⟩
    · obtain ⟨⟨o, e', i⟩, n⟩ := P.ow p hp
      rw [e, hL] at e'; cases e'
  show codeAny _ _ (.expr e (envX qual scope s.heap.objs.size f (.ref c') cl)) _ _
  exact kla_codeExpr (wpAny_mono ((k _ _ D ⟨hk, rfl, rfl, rfl⟩ (hroom.deeper _)).run _ rfl hr) (fun v s' y => y) fun _ _ y => y.1.elim)⟩
end
section
variable {c : GC} {A : Around} {env : Env} {g : FB} {h : Heap} {pos p : Pos} {es : List Expr} {x k : Str} {ds : List Dt} {Q : Value → Heap → Prop} {E : Value → Heap → Prop} {f D : Addr} {fo : Obj} {fd : FuncData}
  {r : Rec} {own : Led} {L a : Addr} {loc : Loc} {u : Value} {t : Tok} {n : Nat} {d : Dt} {ve ke : Expr}
theorem Wp_callKw1 {args : List (Bool × Sem Value)} {ks : Sem Value} (hd' : fo.data = .func fd) (hne : ∃ x r, args = (false, x) :: r)
    (x : Wp c A (spliced args) (fun vs h₁ => Wp c A ks (fun u h₂ => h₂.get? f = some fo ∧ Cd c A (.call (.ref f) ⟨vs, [(k, u)]⟩) (Rv Q E) h₂) E h₁) E h) : Wp c A (callWith pos (.ref f) [] args [(some k, ks)]) Q E h :=
  ⟨fun s hs hr => callWith_function_kw (o := fo) (fd := fd) (by
    obtain ⟨y, l, rfl⟩ := hne
    exact evalArgs_kw rfl (x.wpAny_of hs hr fun vs s₁ y r₁ => wpAny_evalAll_cons (y.wpAny_of rfl r₁ fun u s₂ z r₂ => wpAny_evalAll_nil ⟨⟨z.1, hd'⟩, (Wp_call z.2).run s₂ rfl r₂⟩)))⟩
theorem Wp.toS {α : Type} {m : Sem α} {Z : α → Shared → Prop} {s : Shared} (W : Wp c A m (fun a h₁ => ∀ s₁ : Shared, s₁.heap = h₁ → Rest c s₁ → Z a s₁) E h) (hs : s.heap = h) (hr : Rest c s) : wpAny (Mo c) A m Z (fun e s' => E e s'.heap ∧ Rest c s') s :=
  W.wpAny_of hs hr fun a s₁ y r₁ => y s₁ rfl r₁
theorem Wp_callStar {args : List (Bool × Sem Value)} {ks : Sem Value} (hd' : fo.data = .func fd) (hne : ∃ x r, args = (false, x) :: r)
    (hm : (D == sysModules) = false) (x : ∀ Z : List Value → Heap → Prop, (∀ vs g₁ h₁, St c r g₁ own L loc h₁ → Ev c A ks g₁ h₁ (fun _ _ v => v = .ref D) → g₁ D = some (dct1 c.w.params k t u n) →
      (∀ g₂ h₂, St c r g₂ own L loc h₂ → Sub g₁ g₂ → h₂.get? f = some fo ∧ Cd c A (.call (.ref f) ⟨vs, [(k, u)]⟩) (Rv Q E) h₂) → Z vs h₁) → Wp c A (spliced args) Z E h) : Wp c A (callWith pos (.ref f) [] args [(none, ks)]) Q E h :=
  ⟨fun s hs hr => callWith_function_kw (o := fo) (fd := fd) (by
    obtain ⟨y, l, rfl⟩ := hne
    unfold evalArgs
    refine wpAny_bind (Wp.toS (x _ fun vs g₁ h₁ D₁ ek eD k₁ s₁ e₁ r₁ => ?_) hs hr)
    subst e₁
    refine wpAny_bind (wpAny_pure (wpAny_holding ?_))
    rw [if_neg (by simp)]
    have hn := Heap.get?_push_self_none s₁.heap
    have D₂ := D₁.push (o := dictOf [] 0) (x := .ex _) rfl rfl
    have hne' : s₁.heap.objs.size ≠ D := fun q => by
      have := D₁.gh _ _ eD
      rw [← q, hn] at this; cases this
    refine wpAny_bind (wp_merged1 (D := D) (k := k) (t := t) (u := u) (n := n) hm hne' fun Z kZ => ?_)
    refine ((ek.up (Gr.push D₁.gh)).go g₁ _ D₂.gr (fun v h' => v = .ref D ∧ ∃ g₃, St c r g₃ ((s₁.heap.objs.size, .ex (dictOf [] 0)) :: own) L loc h' ∧ Sub g₁ g₃) E fun v g₃ h₃ G₃ ev => ⟨ev, g₃, D₂.grow G₃, G₃.sub⟩).wpAny_of rfl (show Rest c { s₁ with heap := s₁.heap.push (dictOf [] 0) } from r₁) fun v s₃ z r₃ => ?_
    obtain ⟨rfl, g₃, D₃, s₃'⟩ := z
    obtain ⟨o, eo, io⟩ := D₃.get (.head _)
    have io : o = dictOf [] 0 := io
    subst io
    refine kZ _ eo (D₃.gh _ _ (s₃' _ _ eD)) fun h₄ hsb ho => ?_
    have D₄ := D₃.up (x' := .ex (dct1 c.w.params k t u 1)) .head hsb ho rfl
    refine wpAny_bind (wpAny_pure (wpAny_bind (wpAny_holding (wp_keywordsIn ho ?_))))
    have z := k₁ g₃ h₄ D₄.tail s₃'
    exact wpAny_pure ⟨⟨z.1, hd'⟩, (Wp_call z.2).run _ rfl r₃⟩)⟩
theorem Wp_SubF {j : Int} (h0 : 0 ≤ j) (W : ∀ Z : Value → Heap → Prop, (∀ v g₁ own₁ ds h₁, St c r g₁ own₁ L loc h₁ → Den g₁ v (.lst ds) → ds[j.toNat]? = some d → ds.length < 2 ^ 62 → EvD c A env ke g₁ h₁ (.int j) →
      (∀ w g₂ h₂, St c r g₂ own₁ L loc h₂ → Sub g₁ g₂ → Den g₂ w d → Q w h₂) → Z v h₁) → Wp c A (eval ve env) Z E h)
    (hs : ∀ a u, subscripted ke false (.ref a) (.int j u) = operate [.ref a, .int j u] (getItem (.ref a) (.int j u))) : Wp c A (eval (.Subscript ve ke pos) env) Q E h :=
  ⟨fun s hs' hr => Subscript_ (Wp.toS (W _ fun o g₁ own₁ ds h₁ D₁ dv hx hf ek k₁ s₁ e₁ r₁ => by
    subst e₁
    refine Wp.toS (ek.go g₁ s₁.heap D₁.gr _ E fun i g₂ h₂ G₂ di s₂ e₂ r₂ => ?_) rfl r₁
    subst e₂
    have D₂ := D₁.grow G₂
    have s₂' := G₂.sub
    obtain ⟨u, rfl⟩ := di.int_inv
    obtain ⟨b, vs, m, rfl, eo, kv⟩ := (dv.mono s₂').lst_inv
    obtain ⟨w, ew, dw⟩ := kv.arr hx
    have hL : s₂.heap.IsList b vs.toArray := ⟨_, D₂.gh _ _ eo, rfl, m, rfl⟩
    have hk : j < 2 ^ 63 := idx_small h0 (List.getElem?_eq_some_iff.mp hx).1 hf
    exact tail_any hL.typeIs slot_list_getitem.lookup (wpAny_getItem_list hL h0 hk ew ⟨k₁ w g₂ s₂.heap D₂ s₂' dw, r₂⟩) (hs b u)) hs' hr)⟩
end
section
variable {c : GC} {A : Around} {env : Env} {g : FB} {h : Heap} {pos p : Pos} {es : List Expr} {x : Str} {Q : Value → Heap → Prop} {E : Value → Heap → Prop} {f : Value} {kws : List Keyword} {e : Expr} {d : Dt}
theorem Wp_CallKw (hf : Ev c A (eval (.Name x p) env) g h fun _ _ v => v = f) (gr : Gr g h g h)
    (k : ∀ g' h', Gr g h g' h' → Wp c A (callWith pos f [] (backTo pos (starEach es env)) (backToKw pos (keywordEach kws env))) Q E h') : Wp c A (eval (.Call (.Name x p) es kws pos) env) Q E h :=
  ⟨fun s hs hr => wpAny_Call_Name_kw ((hf.go g h gr (fun v h' => v = f ∧ ∃ g', Gr g h g' h') E fun v g' h' G e => ⟨e, g', G⟩).wpAny_of hs hr fun v s₁ ⟨ev, g', G⟩ r₁ => by subst ev; exact (k g' s₁.heap G).run s₁ rfl r₁)⟩
theorem ev_back (q : EvD c A env e g h d) : Ev c A (do let v ← eval e env; standAt pos; pure v) g h fun g' _ v => Den g' v d :=
  q.bind fun v g' h' G dv => .stand (.pure fun g'' h'' G'' => dv.mono G''.sub)
end
noncomputable def HndAt (h : Heap) (x : Addr) : Prop := ∃ o vs, h.get? x = some o ∧ o.data = .fields vs ∧ vs[2]? = some .none
section
variable {prog : Program} {w : World} {A : Around} {E : Value → Shared → Prop} {s : Shared} {x it l : Addr} {i : Nat} {items : Array Value}
theorem wp_stopH {α : Type} {Q : α → Shared → Prop} (hh : A.handled = some (.ref x)) (hx : HndAt s.heap x)
    (hE : ∀ h' a, (∀ b o, s.heap.get? b = some o → h'.get? b = some o) → (∃ o, h'.get? a = some o ∧ o.cls = .type "StopIteration") → E (.ref a) { s with heap := h' }) : wpAny (model prog w) A (Builtin.SmallTypes.stopIteration : Sem α) Q E s := by
  obtain ⟨ox, vs, ex, dx, h2⟩ := hx
  unfold Builtin.SmallTypes.stopIteration
  refine wpAny_bind ?_
  simp only [newExc, newTuple]
  refine wpAny_bind (wpAny_newObj_type ?_ (by size_fits))
  refine wpAny_bind (m := firstArgMember _ _) (wpAny_of_eq (a := Value.none) (by first | rfl | (simp only [firstArgMember]; rfl)) ?_)
  refine wpAny_newObj_type ?_ (by size_fits)
  simp only [raiseNew]
  refine wpAny_bind (wpAny_handled ?_)
  rw [hh]
  dsimp only
  have ex' := Heap.get?_push_of_some (h := s.heap.push (tupOf [] 0)) { cls := .type "StopIteration", data := .fields (#[.ref s.heap.objs.size, .none, .none, .none, .bool false, .none] ++ ownMembersOf (.type "StopIteration") []) } (Heap.get?_push_of_some (tupOf [] 0) ex)
  have hne : x ≠ (s.heap.push (tupOf [] 0)).objs.size := Nat.ne_of_lt (by rw [Heap.size_push]; exact Nat.lt_succ_of_lt (Heap.lt_size ex))
  rw [if_pos (by simpa using hne)]
  refine wpAny_bind (wpAny_holding (wp_unchain ex' dx h2 ?_))
  unfold updateField
  refine wpAny_bind ?_
  refine wpAny_bind (wpAny_load (Heap.get?_push_size (s.heap.push (tupOf [] 0)) rfl) ?_)
  dsimp only
  rw [if_pos (by rw [Array.size_append]; exact Nat.lt_of_lt_of_le (show 2 < 6 by decide) (Nat.le_add_right _ _))]
  refine wpAny_update (Heap.get?_push_size (s.heap.push (tupOf [] 0)) rfl) (wpAny_throw (hE _ _ (fun b o e => ?_) ⟨_, Heap.get?_update_self _ (Heap.get?_push_size (s.heap.push (tupOf [] 0)) rfl) rfl, rfl⟩))
  rw [Heap.get?_update_other _ _ (Nat.ne_of_gt (by rw [Heap.size_push]; exact Nat.lt_succ_of_lt (Heap.lt_size e)))]
  exact Heap.get?_push_of_some _ (Heap.get?_push_of_some _ e)
theorem wp_pyNext_list_endH {Q : Option Value → Shared → Prop} (hh : A.handled = some (.ref x)) (hx : HndAt s.heap x) (hne : x ≠ it)
    (hit : s.heap.IsListIter it l i) (hl : s.heap.IsList l items) (hi : items[i]? = none)
    (hQ : ∀ h', Heap.ExtBut it s.heap h' → Q none { s with heap := h' }) : wpAny (model prog w) A (pyNext (.ref it)) Q E s := by
  obtain ⟨o, ho, hc, hd⟩ := id hit
  obtain ⟨ol, hol, _, nl, hdl⟩ := hl
  obtain ⟨ox, vs, ex, dx, h2⟩ := hx
  unfold pyNext
  refine wpAny_bind (wpAny_attempt (wpAny_callSpecial?_slot (name := Str.ofString "__next__") hit.typeIs slot_listiter_next
    (wpAny_call_entry slot_listiter_next hit.typeIs entry_listiter_next ?_ (args_listiter_next _))))
  show wpAny _ _ (field (.ref it) 0 >>= _) _ _ s
  refine wpAny_bind (wpAny_field ho hd (x := .ref l) rfl ?_)
  show wpAny _ _ (if (Value.ref l == Value.none) = true then _ else _) _ _ s
  rw [if_neg (show ¬ ((Value.ref l == Value.none) = true) from Bool.false_ne_true)]
  show wpAny _ _ (field (.ref it) 1 >>= _) _ _ s
  refine wpAny_bind (wpAny_field ho hd (x := .int i 0) rfl ?_)
  show wpAny _ _ (seqItems? (.ref l) >>= _) _ _ s
  refine wpAny_bind (wpAny_seqItems hol hdl ?_)
  simp only [Int.toNat_natCast, hi]
  refine wpAny_bind (wpAny_rule (wpAny_bind (wpAny_setField ho hd (by simp) ?_)))
  refine wp_stopH (x := x) (show A.in1.handled = _ from hh) ⟨ox, vs, (Heap.get?_update_other _ _ (Ne.symm hne)).trans ex, dx, h2⟩ fun h' a hk ⟨oa, ea, ca⟩ => ?_
  refine wpAny_bind (wpAny_isInstance (T := "StopIteration") (b := true) ⟨oa, ea, ca⟩ isSubtype_stop ?_)
  exact wpAny_pure (hQ _ fun b o hb e => hk b o ((Heap.get?_update_other _ _ (Ne.symm hb)).trans e))
theorem wp_pyNext_tuple_endH {Q : Option Value → Shared → Prop} (hh : A.handled = some (.ref x)) (hx : HndAt s.heap x) (hne : x ≠ it)
    (hit : s.heap.IsTupleIter it l i) (hl : s.heap.IsTuple l items) (hi : items[i]? = none)
    (hQ : ∀ h', Heap.ExtBut it s.heap h' → Q none { s with heap := h' }) : wpAny (model prog w) A (pyNext (.ref it)) Q E s := by
  obtain ⟨o, ho, hc, hd⟩ := id hit
  obtain ⟨ol, hol, _, nl, hdl⟩ := hl
  obtain ⟨ox, vs, ex, dx, h2⟩ := hx
  unfold pyNext
  refine wpAny_bind (wpAny_attempt (wpAny_callSpecial?_slot (name := Str.ofString "__next__") hit.typeIs F.slot_tuple_iterator_next
    (wpAny_call_entry F.slot_tuple_iterator_next hit.typeIs F.entry_tuple_iterator_next ?_ (F.args_tuple_iterator_next_1 _))))
  show wpAny _ _ (field (.ref it) 0 >>= _) _ _ s
  refine wpAny_bind (wpAny_field ho hd (x := .ref l) rfl ?_)
  show wpAny _ _ (if (Value.ref l == Value.none) = true then _ else _) _ _ s
  rw [if_neg (show ¬ ((Value.ref l == Value.none) = true) from Bool.false_ne_true)]
  show wpAny _ _ (field (.ref it) 1 >>= _) _ _ s
  refine wpAny_bind (wpAny_field ho hd (x := .int i 0) rfl ?_)
  show wpAny _ _ (seqItems? (.ref l) >>= _) _ _ s
  refine wpAny_bind (wpAny_seqItems hol hdl ?_)
  simp only [Int.toNat_natCast, hi]
  refine wpAny_bind (wpAny_rule (wpAny_bind (wpAny_setField ho hd (by simp) ?_)))
  refine wp_stopH (x := x) (show A.in1.handled = _ from hh) ⟨ox, vs, (Heap.get?_update_other _ _ (Ne.symm hne)).trans ex, dx, h2⟩ fun h' a hk ⟨oa, ea, ca⟩ => ?_
  refine wpAny_bind (wpAny_isInstance (T := "StopIteration") (b := true) ⟨oa, ea, ca⟩ isSubtype_stop ?_)
  exact wpAny_pure (hQ _ fun b o hb e => hk b o ((Heap.get?_update_other _ _ (Ne.symm hb)).trans e))
end
theorem HndAt.at {h h' : Heap} {x : Addr} (y : HndAt h x) (k : ∀ o, h.get? x = some o → h'.get? x = some o) : HndAt h' x := let ⟨o, vs, e, r⟩ := y; ⟨o, vs, k _ e, r⟩
theorem walksListH {prog : Program} {w : World} {A : Around} {x : Addr} (hh : A.handled = some (.ref x)) (I ax : Addr) (hne : ax ≠ I) (hx : x ≠ I) (items : Array Value) :
    Walks prog w A I [I, ax, x] [I] items.size (fun i v => items[i]? = some v) (fun i h => (h.IsListIter I ax i ∧ h.IsList ax items) ∧ HndAt h x) where
  sub := fun b hb => by simp at hb; simp [hb]
  frame := fun _ _ _ st hk => ⟨⟨st.1.1.at fun o e => hk I (by simp) o e, st.1.2.at fun o e => hk ax (by simp) o e⟩, st.2.at fun o e => hk x (by simp) o e⟩
  item := fun i s Q E hi st hQ => by
    refine wpAny_pyNext_list_item st.1.1 st.1.2 (x := items[i]) (by simp [hi]) fun h' hit' hs' => ?_
    exact hQ _ h' s.toks (by simp [hi]) ⟨⟨hit', st.1.2.extBut hs'.extBut hne⟩, st.2.at fun o e => hs'.extBut _ o hx e⟩ fun b o hb e => hs'.extBut b o (fun h => hb (by simp [h])) e
  done := fun s Q E st hQ => wp_pyNext_list_endH hh st.2 hx st.1.1 st.1.2 (by simp) fun h' he' => hQ h' s.toks fun b o hb e => he' b o (fun h => hb (by simp [h])) e
  self := fun _ _ _ _ st hQ => wpAny_pyIter_listiter st.1.1 hQ
theorem walksTupH {prog : Program} {w : World} {A : Around} {x : Addr} (hh : A.handled = some (.ref x)) (I ax : Addr) (hne : ax ≠ I) (hx : x ≠ I) (items : Array Value) :
    Walks prog w A I [I, ax, x] [I] items.size (fun i v => items[i]? = some v) (fun i h => (h.IsTupleIter I ax i ∧ h.IsTuple ax items) ∧ HndAt h x) where
  sub := fun b hb => by simp at hb; simp [hb]
  frame := fun _ _ _ st hk => ⟨⟨st.1.1.at fun o e => hk I (by simp) o e, st.1.2.at fun o e => hk ax (by simp) o e⟩, st.2.at fun o e => hk x (by simp) o e⟩
  item := fun i s Q E hi st hQ => by
    refine wpAny_pyNext_tuple_item st.1.1 st.1.2 (x := items[i]) (by simp [hi]) fun h' hit' hs' => ?_
    exact hQ _ h' s.toks (by simp [hi]) ⟨⟨hit', st.1.2.extBut hs'.extBut hne⟩, st.2.at fun o e => hs'.extBut _ o hx e⟩ fun b o hb e => hs'.extBut b o (fun h => hb (by simp [h])) e
  done := fun s Q E st hQ => wp_pyNext_tuple_endH hh st.2 hx st.1.1 st.1.2 (by simp) fun h' he' => hQ h' s.toks fun b o hb e => he' b o (fun h => hb (by simp [h])) e
  self := fun _ _ _ _ st hQ => wpAny_pyIter_tupleiter st.1.1 hQ
noncomputable def Hnd (g : FB) (x : Addr) : Prop := ∃ o vs, g x = some o ∧ o.data = .fields vs ∧ vs[2]? = some .none
theorem Hnd.mono {g g' : FB} {x : Addr} (y : Hnd g x) (s : Sub g g') : Hnd g' x := let ⟨o, vs, e, r⟩ := y; ⟨o, vs, s _ _ e, r⟩
section
variable {c : GC} {A : Around} {env : Env} {target iter : Expr} {r : Rec} {g : FB} {own : Led} {L x : Addr} {loc : Loc} {h : Heap} {v : Value} {ds : List Dt} {Q : Value → Heap → Prop} {E : Value → Heap → Prop} {n : Nat} {item : Nat → Dt}
theorem Hnd.at {s : Heap} (y : Hnd g x) (gh : ∀ a o, g a = some o → s.get? a = some o) : HndAt s x := let ⟨o, vs, e, r⟩ := y; ⟨o, vs, gh _ _ e, r⟩
theorem itListH (D : St c r g own L loc h) (hh : A.handled = some (.ref x)) (hx : Hnd g x) (dv : Den g v (.lst ds)) (ht : ∀ it v, letOwnedTupleGo target it v = pure ()) (k : Got c A target r g own L loc ds.length (fun i => ds.getD i .none) Q) : Wp c A (pyIter v) Q E h := by
  obtain ⟨a, vs, m, rfl, e, kv⟩ := dv.lst_inv
  refine ⟨fun s hs hr => ?_⟩
  subst hs
  have hl : s.heap.IsList a vs.toArray := ⟨_, D.gh _ _ e, rfl, m, rfl⟩
  have hne : a ≠ s.heap.objs.size := Nat.ne_of_lt (Heap.lt_size (D.gh _ _ e))
  have hX := hx.at D.gh
  have hnx : x ≠ s.heap.objs.size := by obtain ⟨o, _, e, _⟩ := hX; exact Nat.ne_of_lt (Heap.lt_size e)
  have hsz : vs.toArray.size = ds.length := by rw [List.size_toArray, kv.length]
  rw [← hsz] at k
  refine wpAny_pyIter_list hl ⟨Got.one (n := vs.toArray.size) (item := fun i => ds.getD i .none) k D rfl rfl (walksListH hh s.heap.objs.size a hne hnx vs.toArray) (fun b hb => ?_) (fun i h' x => let ⟨o, e, _⟩ := x.1.1; ⟨o, e⟩) (fun i v e => kv.getD e) ht ⟨⟨⟨_, Heap.get?_push_size _ rfl, rfl, rfl⟩, hl.push _⟩, hX.at fun o e => Heap.get?_push_of_some _ e⟩, hr⟩
  rcases List.mem_cons.mp hb with rfl | hb
  · exact .inl rfl
  · rcases List.mem_cons.mp hb with rfl | hb
    · exact .inr ⟨_, e⟩
    · cases List.mem_singleton.mp hb
      obtain ⟨o, _, e, _⟩ := hx
      exact .inr ⟨_, e⟩
theorem itTupH (D : St c r g own L loc h) (hh : A.handled = some (.ref x)) (hx : Hnd g x) (dv : Den g v (.tup ds)) (ht : ∀ it v, letOwnedTupleGo target it v = pure ()) (k : Got c A target r g own L loc ds.length (fun i => ds.getD i .none) Q) : Wp c A (pyIter v) Q E h := by
  obtain ⟨a, vs, m, rfl, e, kv⟩ := dv.tup_inv
  refine ⟨fun s hs hr => ?_⟩
  subst hs
  have hl : s.heap.IsTuple a vs.toArray := ⟨_, D.gh _ _ e, rfl, m, rfl⟩
  have hne : a ≠ s.heap.objs.size := Nat.ne_of_lt (Heap.lt_size (D.gh _ _ e))
  have hX := hx.at D.gh
  have hnx : x ≠ s.heap.objs.size := by obtain ⟨o, _, e, _⟩ := hX; exact Nat.ne_of_lt (Heap.lt_size e)
  have hsz : vs.toArray.size = ds.length := by rw [List.size_toArray, kv.length]
  rw [← hsz] at k
  refine wpAny_pyIter_tuple hl ⟨Got.one (n := vs.toArray.size) (item := fun i => ds.getD i .none) k D rfl rfl (walksTupH hh s.heap.objs.size a hne hnx vs.toArray) (fun b hb => ?_) (fun i h' x => let ⟨o, e, _⟩ := x.1.1; ⟨o, e⟩) (fun i v e => kv.getD e) ht ⟨⟨⟨_, Heap.get?_push_size _ rfl, rfl, rfl⟩, hl.push _⟩, hX.at fun o e => Heap.get?_push_of_some _ e⟩, hr⟩
  rcases List.mem_cons.mp hb with rfl | hb
  · exact .inl rfl
  · rcases List.mem_cons.mp hb with rfl | hb
    · exact .inr ⟨_, e⟩
    · cases List.mem_singleton.mp hb
      obtain ⟨o, _, e, _⟩ := hx
      exact .inr ⟨_, e⟩
theorem srcListH (D : St c r g own L loc h) (hh : A.handled = some (.ref x)) (hx : Hnd g x) (p : EvD c A env iter g h (.lst ds)) (ht : ∀ it v, letOwnedTupleGo target it v = pure ()) : Src c A env target iter r g own L loc h ds.length (fun i => ds.getD i .none) E :=
  fun Q k => p.wp D fun v g' h' D' G dv => itListH D' hh (hx.mono G.sub) dv ht fun it g₂ h₂ pre X g₀ I x D₂ s s₀ hn => k it g₂ h₂ pre X g₀ I x D₂ (G.sub.trans s) s₀ hn
theorem Wp_unpackTH {R : List Value → Heap → Prop} (D : St c r g own L loc h) (hh : A.handled = some (.ref x)) (hx : Hnd g x) (dv : Den g v (.tup ds)) (hn : n = ds.length) (k : ∀ vs g' h', St c r g' own L loc h' → Sub g g' → Dens g' vs ds → R vs h') : Wp c A (unpackItems v n none) R E h := by
  subst hn
  refine Wp_unpackG (target := .Constant .none 0 ⟨0, 0, 0, 0⟩) (item := fun i => ds.getD i .none) D ?_ (fun _ _ => rfl) (fun Q q => itTupH D hh hx dv (fun _ _ => rfl) q) fun vs g' h' D' s dvs => k vs g' h' D' s (by rw [getD_all] at dvs; exact dvs)
  obtain ⟨a, vs, m, rfl, eo, kv⟩ := dv.tup_inv
  exact ⟨fun s hs hr => by
    subst hs
    have hl : s.heap.IsTuple a vs.toArray := ⟨_, D.gh _ _ eo, rfl, m, rfl⟩
    unfold notIterableAtAll
    exact wpAny_bind (wpAny_specialOf hl.typeIs F.slot_tuple_iter.lookup (wpAny_pure ⟨⟨rfl, rfl⟩, hr⟩))⟩
end
section
variable {c : GC} {A : Around} {env : Env} {r : Rec} {g : FB} {own own' : Led} {L a x t0 : Addr} {loc : Loc} {h : Heap} {d : Dt} {v : Value} {pos apos p : Pos} {E : Value → Heap → Prop} {ds : List Dt} {o e : Expr} {es : List Expr} {Q : Value → Heap → Prop} {n : Nat} {X nm : String} {y : Str}
theorem Wp_appendE (D : St c r g own L loc h) (po : EvD c A env o g h (.ref a)) (pe : EvD c A env e g h d) (U : Up a (.lst ds) (.lst (ds ++ [d])) own own') (hsz : ds.length < sizeLine)
    (hbase : attributeBase o "append" env (eval o env) = eval o env) (hse : starEach [e] env = [(false, eval e env)]) (hline : (apos.endLine == pos.line) = true)
    (k : ∀ g' h', St c r g' own' L loc h' → Sub g g' → Q .none h') : Wp c A (eval (.Call (.Attribute o "append" apos) [e] [] pos) env) Q E h := by
  have hb : backTo pos (starEach [e] env) = [(false, eval e env)] := by rw [hse]; rfl
  refine Wp_meth PySem.F.plainAttrs_list PySem.F.slot_list_append PySem.F.type_list_append (po.wp D fun ov g₁ h₁ D₁ G₁ p => ?_) hbase (by rw [hb]; rfl) hline (by rw [hb]; rfl) (.inr ⟨_, _, hb⟩)
  cases p.ref_inv
  refine ⟨D₁.lstType U.mem, Wa_cons ((pe.up G₁).wp D₁ fun v g₂ h₂ D₂ G₂ dv => Wa_nil (Wp_append D₂ dv U hsz fun h' D' => k g₂ h' D' (G₁.sub.trans G₂.sub))) hse⟩
theorem Wp_TupF (D : St c r g own L loc h) (w : Wa c A pos es env (MadeK c r L loc Dt.tup Q) E h) :
    Wp c A (eval (.Tuple es n pos) env) Q E h := by
  refine Wp_eq (show _ = (standAt pos >>= fun _ => spliced (backTo pos (starEach es env)) >>= newTuple) from rfl) (Wp_bind ⟨fun s hs hr => wpAny_standAt ⟨?_, hr⟩⟩)
  subst hs
  refine Wp_bind (w.imp fun vs h₁ ⟨g₁, own₁, ds, D₁, kv, hsz, q⟩ => ?_)
  exact (ev_newTup (c := c) (A := A) kv hsz).wp D₁ fun v g₂ h₂ D₂ G₂ dv => q v g₂ h₂ D₂ G₂.sub dv
theorem eStrX (FX : ExcStrFacts X nm) (hu : A.units + 2 < cLine) (hf : Ev c A (eval (.Name y p) env) g h fun _ _ v => v = .type "str") (q : EvD c A env e g h (.ref x)) (hx : ∃ ob vs, g x = some ob ∧ ob.cls = .type X ∧ ob.data = .fields vs ∧ vs[0]? = some (.ref t0)) (ht : g t0 = some (tupOf [] 0))
    (hse : starEach [e] env = [(false, eval e env)]) : EvD c A env (.Call (.Name y p) [e] [] pos) g h (.str Str.empty) :=
  eCallT1 hf q (fun v g' h' G dv => by
    cases dv.ref_inv
    obtain ⟨ob, vs, e1, e2, e3, e4⟩ := hx
    exact .of fun g₁ s G₁ Q E q => P.str_of_exc_none FX hu ⟨ob, vs, (G.trans G₁).gh _ _ ((G.trans G₁).sub _ _ e1), e2, e3, e4⟩ ⟨_, 0, (G.trans G₁).gh _ _ ((G.trans G₁).sub _ _ ht), rfl, rfl⟩ (q _ (s.toks + 1) (.str _ _))) hse
theorem bLeLt {l r₁ r₂ : Expr} {i j k : Int} (p : EvD c A env l g h (.int i)) (q : EvD c A env r₁ g h (.int j)) (z : EvD c A env r₂ g h (.int k)) (hm : behindInMarks .Lt r₂ = false) :
    EvB c A env (.Compare l [.LtE, .Lt] [r₁, r₂] pos) g h (decide (i ≤ j) && decide (j < k)) :=
  bCmp2 p q (fun v w _ _ _ p q => by obtain ⟨_, rfl⟩ := p.int_inv; obtain ⟨_, rfl⟩ := q.int_inv; exact cmp_le) (fun _ => z) (fun v w _ _ _ p q => by obtain ⟨_, rfl⟩ := p.int_inv; obtain ⟨_, rfl⟩ := q.int_inv; exact cmp_lt) hm
end
section
variable {c : GC} {A : Around} {env : Env} {r : Rec} {g : FB} {own : Led} {L : Addr} {loc : Loc} {h : Heap} {pos p kp : Pos} {E : Value → Heap → Prop} {es : List Expr} {Q : Value → Heap → Prop} {x k : Str} {f : Addr} {fo : Obj} {fd : FuncData} {ke : Expr}
theorem Wp_CallKwT (D : St c r g own L loc h) (hf : Ev c A (eval (.Name x p) env) g h fun _ _ v => v = .ref f) (ho : c.b.get? f = some fo) (hd' : fo.data = .func fd) (hne : ∃ x r, backTo pos (starEach es env) = (false, x) :: r)
    (W : ∀ g' h', St c r g' own L loc h' → Sub g g' → Wp c A (spliced (backTo pos (starEach es env))) (fun vs h₁ => Wp c A (do let v ← eval ke env; standAt pos; pure v) (fun u h₂ => ∃ g₂ own₂, St c r g₂ own₂ L loc h₂ ∧ Cd c A (.call (.ref f) ⟨vs, [(k, u)]⟩) (Rv Q E) h₂) E h₁) E h') :
    Wp c A (eval (.Call (.Name x p) es [⟨some k, ke, kp⟩] pos) env) Q E h :=
  Wp_CallKw hf D.gr fun g' h' G => Wp_callKw1 hd' hne ((W g' h' (D.grow G) G.sub).imp fun vs h₁ y => y.imp fun u h₂ ⟨g₂, own₂, D₂, z⟩ => ⟨D₂.gh _ _ (D₂.cb _ _ ho), z⟩)
end
noncomputable def SomeL (g : FB) (a : Addr) (ds : List Dt) : Prop := ∃ o vs n, g a = some o ∧ o.cls = .type "list" ∧ o.data = .seq vs.toArray n ∧ Dens g vs ds
theorem SomeL.mono {g g' : FB} {a : Addr} {ds : List Dt} (x : SomeL g a ds) (s : Sub g g') : SomeL g' a ds := let ⟨o, vs, n, e, c, d, k⟩ := x; ⟨o, vs, n, s _ _ e, c, d, k.mono s⟩
section
variable {c : GC} {A : Around} {env : Env} {g : FB} {h : Heap} {l r e : Expr} {pos p : Pos} {x : Str} {ds es : List Dt} {d : Dt} {a : Addr}
theorem nSliceF {lower upper step : Option Expr} {lo hi st : Option Int} {value : Expr} (P : EvD c A env value g h (.ref a)) (F : SomeL g a ds) (pa : EvPt c A env lower g h lo) (b : EvPt c A env upper g h hi) (w : EvPt c A env step g h st) (h0 : st ≠ some 0) (hsz : ds.length ≤ sizeLine)
    (hs : ∀ a u, ∃ ops, subscripted (.Slice lower upper step p) false (.ref a) (.ref u) = operate ops (getItem (.ref a) (.ref u))) : EvN c A env (.Subscript value (.Slice lower upper step p) pos) g h (pickL ds lo hi st) :=
  ⟨fun g₁ h₁ G₁ => ⟨fun g₂ h₂ G₂ Q E q => ⟨fun s hs' hr => Subscript_ ((P.go g₂ h₂ (G₁.trans G₂) (fun v h₃ => ∃ g₃, Gr g₂ h₂ g₃ h₃ ∧ v = .ref a) E fun v g₃ h₃ G₃ dv => ⟨g₃, G₃, dv.ref_inv⟩).wpAny_of hs' hr fun v s₃ ⟨g₃, G₃, e⟩ r₃ => by
    subst e
    refine wpAny_Slice ((pa.go g₃ s₃.heap ((G₁.trans G₂).trans G₃) (fun v h₄ => ∃ g₄, Gr g₃ s₃.heap g₄ h₄ ∧ IsPart v lo) E fun v g₄ h₄ G₄ y => ⟨g₄, G₄, y⟩).wpAny_of rfl r₃ fun vl s₄ ⟨g₄, G₄, pl⟩ r₄ => ?_)
    refine (b.go g₄ s₄.heap (((G₁.trans G₂).trans G₃).trans G₄) (fun v h₅ => ∃ g₅, Gr g₄ s₄.heap g₅ h₅ ∧ IsPart v hi) E fun v g₅ h₅ G₅ y => ⟨g₅, G₅, y⟩).wpAny_of rfl r₄ fun vu s₅ ⟨g₅, G₅, pu⟩ r₅ => ?_
    refine (w.go g₅ s₅.heap ((((G₁.trans G₂).trans G₃).trans G₄).trans G₅) (fun v h₆ => ∃ g₆, Gr g₅ s₅.heap g₆ h₆ ∧ IsPart v st) E fun v g₆ h₆ G₆ y => ⟨g₆, G₆, y⟩).wpAny_of rfl r₅ fun vs' s₆ ⟨g₆, G₆, ps⟩ r₆ => ?_
    obtain ⟨ob, vs, n, eo, ecl, edt, kv⟩ := (((((F.mono G₁.sub).mono G₂.sub).mono G₃.sub).mono G₄.sub).mono G₅.sub).mono G₆.sub
    have hl : s₆.heap.IsList a vs.toArray := ⟨ob, G₆.gh _ _ eo, ecl, n, edt⟩
    obtain ⟨ops, hops⟩ := hs a s₆.heap.objs.size
    have G7 : Gr g₆ s₆.heap g₆ ((s₆.heap.push { cls := .type "slice", data := .fields #[vl, vu, vs'] }).push { cls := .type "list", data := .seq (slicePick vs.toArray lo hi st) }) := (Gr.push G₆.gh).trans (.push (Gr.push G₆.gh).gh)
    have hn : (s₆.heap.push { cls := .type "slice", data := .fields #[vl, vu, vs'] }).get? (s₆.heap.push { cls := .type "slice", data := .fields #[vl, vu, vs'] }).objs.size = none := Heap.get?_push_self_none _
    have G6 : Gr g₁ h₁ g₆ s₆.heap := (((G₂.trans G₃).trans G₄).trans G₅).trans G₆
    refine tail_any (hl.push _).typeIs list_getitem_lookup (wpAny_getItem_list_slice (hl.push _) (Heap.IsSliceOf.new ..) pl pu ps h0 ⟨q _ g₆ _ ((((G₃.trans G₄).trans G₅).trans G₆).trans G7) ⟨_, rfl, ?_, ?_, (slicePick vs.toArray lo hi st).toList, 0, ?_, kv.pick lo hi st⟩, r₆⟩ ?_) hops
    · exact (Al.of (G6.trans (Gr.push G₆.gh)).kp).none hn
    · exact FB.none_of (Gr.push G₆.gh).gh hn
    · have := Heap.get?_push_size (s₆.heap.push { cls := .type "slice", data := .fields #[vl, vu, vs'] }) (o := { cls := .type "list", data := .seq (slicePick vs.toArray lo hi st) }) rfl
      simpa using this
    · rw [List.size_toArray, kv.length]; exact hsz)⟩⟩⟩
theorem Dens.ints {vs : List Value} {ns : List Int} (k : Dens g vs (ns.map .int)) : ∃ xs : List (Int × Tok), vs = xs.map (fun p => Value.int p.1 p.2) ∧ xs.map (·.1) = ns := by
  induction ns generalizing vs with
  | nil => cases k; exact ⟨[], rfl, rfl⟩
  | cons n ns ih =>
    obtain _ | ⟨p, ps⟩ := k
    obtain ⟨t, rfl⟩ := p.int_inv
    obtain ⟨xs, rfl, e⟩ := ih ps
    exact ⟨(n, t) :: xs, rfl, by rw [List.map_cons, e]⟩
theorem Dens.strs {vs : List Value} {ys : List Str} (k : Dens g vs (ys.map .str)) : StrsAre vs ys := by
  induction ys generalizing vs with
  | nil => cases k; exact .nil
  | cons y ys ih =>
    obtain _ | ⟨p, ps⟩ := k
    obtain ⟨t, rfl⟩ := p.str_inv
    exact .cons y t (ih ps)
theorem eSum {ns : List Int} (hh : A.handled = none) (hf : Ev c A (eval (.Name x p) env) g h fun _ _ v => v = .builtin "sum") (q : EvL c A env e g h (ns.map .int)) (hse : starEach [e] env = [(false, eval e env)]) : EvD c A env (.Call (.Name x p) [e] [] pos) g h (.int ns.sum) := by
  have hb : backTo pos (starEach [e] env) = [(false, eval e env)] := by rw [hse]; rfl
  refine eCallB (P₀ := fun g' h' vs => ∃ a, vs = [.ref a] ∧ LstAt g' h' a (ns.map .int)) hf ?_ (fun vs g' h' G ⟨a, ev, vs', n, e', k⟩ => ?_) (by rw [hb]; rfl) (.inr ⟨_, _, hb⟩)
  · rw [hb]
    exact ⟨fun g₁ h₁ G Q E z => ⟨fun s hs hr => Calls.spliced_cons ((q.go g₁ h₁ G _ _ fun v g₂ h₂ G₂ ⟨a, ev, z'⟩ => (⟨fun s hs hr => Calls.spliced_nil ⟨hs ▸ z [v] g₂ h₂ G₂ ⟨a, by rw [ev], z'⟩, hr⟩⟩ : Wp c A (spliced []) (fun vs => Q (v :: vs)) E h₂)).wpAny_of hs hr fun v s₁ y r₁ => y.run s₁ rfl r₁)⟩⟩
  · subst ev
    obtain ⟨xs, rfl, exs⟩ := k.ints
    refine .ofG fun g₁ s G₁ Q E z => sum_intListG (xs := xs.toArray) hh ⟨_, G₁.kp _ _ e', rfl, n, by simp [intItems]⟩ fun h' tk t' hk => ?_
    refine z _ h' tk g₁ (.heap G₁.gh hk) ?_
    rw [preSum_eq, List.take_of_length_le (by simp)]
    rw [← exs]
    exact .int _ _
theorem bIn {k : Nat} {pos' : Pos} {n : Nat} {b : Bool} (q : EvL c A env r g h ds) (ok : Doks n ds) (hn : n < 32) (hu : A.units + 64 < cLine) (hb : b = true ↔ Dt.none ∈ ds) (hm' : behindInMarks .In r = false) : EvB c A env (.Compare (.Constant .none k pos') [.In] [r] pos) g h b := by
  refine .eq (isTrue_Compare1 ..) (eNone.bind fun v g₁ h₁ G₁ x => ?_)
  cases x.none_inv
  rw [markedBehindIn_of_false hm']
  refine (q.up G₁).hold.bind fun w g₂ h₂ G₂ ⟨a', e, y⟩ => ?_
  subst e
  refine .stand ((Ev.oper (P := fun _ _ u => u = .bool b) (.of fun g₃ s G₃ Q E q => ?_)).bind fun u g₃ h₃ G₃ z => ?_)
  · obtain ⟨as, ra⟩ := (y.gr G₃).reads G₃.gh ok
    have l := kqd_lay (n + 1) (Dt.lst ds).dat (Dok.lst ok).kqd
    rw [Dt.dat, kqdP] at l
    simp only [PyData.canLay0, PyData.depth] at l
    rw [Dt.dat, kqdP] at ra
    refine SeqAt.in_list_reads ra .none l.1 (by rfl) ?_ ?_
    · have := Nat.min_le_right (PyData.depthAll (kqdPs (Dt.dats ds))) PyData.none.depth
      have e : PyData.none.depth = 0 := rfl
      (first | lia | omega)
    · have e := ok.any (Dok.none (n := 0))
      rw [show ((kqdPs (Dt.dats ds)).any fun y => PyData.eqv y .none) = b from ?_]
      · exact q _ s.toks rfl
      · rw [Bool.eq_iff_iff, hb, ← e]
        show _ ↔ ((kqdPs (Dt.dats ds)).any fun y => PyData.eqv y PyData.none) = true
        simp
  · subst z
    exact ev_truthy_bool.hold
end
section
variable {c : GC} {A : Around} {env : Env} {g : FB} {h : Heap} {l rr e o : Expr} {pos p apos : Pos} {x : Str} {ds es : List Dt} {d : Dt} {a : Addr} {r : Rec} {own : Led} {L : Addr} {loc : Loc} {Q : Flow → Heap → Prop} {E : Value → Heap → Prop} {rest : List Stmt} {sep : Str} {ys : List Str}
theorem Wp_join {R : Value → Heap → Prop} (D : St c r g own L loc h) (ps : EvD c A env o g h (.str sep))
    (W : ∀ g₁ h₁, St c r g₁ own L loc h₁ → Sub g g₁ → ∀ Z : Value → Heap → Prop, (∀ b g₂ own₂ h₂, St c r g₂ own₂ L loc h₂ → LstAt g₂ h₂ b (ys.map .str) → (ys.map (·.length)).sum + ys.length * sep.length ≤ 16777216 →
      (∀ w, Den g₂ w (.str (Txt.join sep ys)) → R w h₂) → Z (.ref b) h₂) → Wp c A (eval e env) Z E h₁)
    (hbase : attributeBase o "join" env (eval o env) = eval o env) (hse : starEach [e] env = [(false, eval e env)]) (hline : (apos.endLine == pos.line) = true) :
    Wp c A (eval (.Call (.Attribute o "join" apos) [e] [] pos) env) R E h := by
  have hb : backTo pos (starEach [e] env) = [(false, eval e env)] := by rw [hse]; rfl
  refine Wp_meth PySem.F.plainAttrs_str PySem.F.slot_str_join PySem.F.type_str_join (ps.wp D fun ov g₁ h₁ D₁ G₁ q => ?_) hbase (by rw [hb]; rfl) hline (by rw [hb]; rfl) (.inr ⟨_, _, hb⟩)
  obtain ⟨t, rfl⟩ := q.str_inv
  refine ⟨fun s _ => ⟨typeIs_str _ _ _, fun a e => by cases e⟩, Wa_cons (W g₁ h₁ D₁ G₁.sub _ fun b g₂ own₂ h₂ D₂ la hsz k => Wa_nil ⟨fun s hs hr => ?_⟩) hse⟩
  obtain ⟨vs, n, eo, kv⟩ := la
  subst hs
  exact join_list (items := vs.toArray) ⟨_, eo, rfl, n, rfl⟩ (by simpa using kv.strs) hsz fun t' k' => ⟨k _ (.str _ _), hr⟩
theorem sIfW {test : Expr} {body orelse : List Stmt} (x : Wp c A (isTrue test env (eval test env)) (fun b h' => if b then Wp c A (execs (body ++ rest) env) Q E h' else Wp c A (execs (orelse ++ rest) env) Q E h') E h) : Wp c A (execs (.If test body orelse pos :: rest) env) Q E h := by
  refine Wp_eq execs_If (Wp_bind ⟨fun s hs hr => wpAny_standAt ⟨?_, hr⟩⟩)
  subst hs
  refine Wp_bind (x.imp fun t h' y => ?_)
  cases t with
  | true => rw [if_pos rfl] at y ⊢; exact y
  | false => rw [if_neg (by simp)] at y ⊢; exact y
theorem Wp_cmpB {op : CmpOp} {R : Bool → Heap → Prop} {b : Bool} (W : ∀ Z : Value → Value → Heap → Prop, (∀ v w g₂ own₂ h₂, St c r g₂ own₂ L loc h₂ → CmpB c A op v w g₂ h₂ b → (∀ g₃ h₃, St c r g₃ own₂ L loc h₃ → Sub g₂ g₃ → R b h₃) → Z v w h₂) → Wp c A (eval l env) (fun v h₁ => Wp c A (eval rr env) (Z v) E h₁) E h)
    (hm : behindInMarks op rr = false) : Wp c A (isTrue (.Compare l [op] [rr] pos) env (eval (.Compare l [op] [rr] pos) env)) R E h := by
  refine Wp_eq (isTrue_Compare1 ..) (Wp_bind (Wp.imp (W (fun v w h₂ => Wp c A (standAt pos >>= fun _ => operate [v, w] (compareOp op v w) >>= fun u => holding [u] (truthy u)) R E h₂) ?k) fun v h₁ y => ?z))
  case z =>
    rw [markedBehindIn_of_false hm]
    exact Wp_bind (Wp_hold y)
  case k =>
    refine fun v w g₂ own₂ h₂ D₂ cb k => Wp_bind ⟨fun s hs hr => wpAny_standAt ⟨?_, hr⟩⟩
    subst hs
    refine Wp_bind (cb.oper.wp D₂ fun u g₃ h₃ D₃ G₃ eu => ?_)
    subst eu
    exact (ev_truthy_bool (c := c) (A := A) (b := b)).hold.wp D₃ fun t g₄ h₄ D₄ G₄ et => et ▸ k g₄ h₄ D₄ (G₃.sub.trans G₄.sub)
theorem Wp_cmpV {op : CmpOp} {R : Value → Heap → Prop} {b : Bool} (W : ∀ Z : Value → Value → Heap → Prop, (∀ v w g₂ own₂ h₂, St c r g₂ own₂ L loc h₂ → CmpB c A op v w g₂ h₂ b → (∀ g₃ h₃, St c r g₃ own₂ L loc h₃ → Sub g₂ g₃ → R (.bool b) h₃) → Z v w h₂) → Wp c A (eval l env) (fun v h₁ => Wp c A (eval rr env) (Z v) E h₁) E h)
    (hm : behindInMarks op rr = false) : Wp c A (eval (.Compare l [op] [rr] pos) env) R E h := by
  refine Wp_eq (eval_Compare1 ..) (Wp_bind (Wp.imp (W (fun v w h₂ => Wp c A (standAt pos >>= fun _ => operate [v, w] (compareOp op v w)) R E h₂) ?k) fun v h₁ y => ?z))
  case z =>
    rw [markedBehindIn_of_false hm]
    exact Wp_bind (Wp_hold y)
  case k =>
    refine fun v w g₂ own₂ h₂ D₂ cb k => Wp_bind ⟨fun s hs hr => wpAny_standAt ⟨?_, hr⟩⟩
    subst hs
    exact cb.oper.wp D₂ fun u g₃ h₃ D₃ G₃ eu => eu ▸ k g₃ h₃ D₃ G₃.sub
theorem cmp_eqD {n m : Nat} {v w : Value} {d e : Dt} {b : Bool} (x : Den g v d) (y : Den g w e) (ok : Dok n d) (ok' : Dok m e) (hn : n ≤ 64) (hm : m ≤ 64) (hu : A.units + 64 < cLine) (hb : b = true ↔ d = e) : CmpB c A .Eq v w g h b :=
  .of fun g₃ s G₃ Q E q => by
    obtain ⟨as, ra⟩ := ok.reads G₃.gh (x.mono G₃.sub)
    obtain ⟨bs, rb⟩ := ok'.reads G₃.gh (y.mono G₃.sub)
    refine eq_dataH ra rb (ok.shaped hn) (ok'.shaped hm) hu ?_
    rw [show PyData.eqv (kqdP d.dat) (kqdP e.dat) = b from Bool.eq_iff_iff.mpr ((ok.eqv ok').trans hb.symm)]
    exact q _ s.toks rfl
end
noncomputable abbrev cellO : Obj := { cls := .type "cell", data := .cell none }
section
variable {M : Model} {A : Around} {E : Value → Shared → Prop} {s : Shared} {scope : Scope} {cl : List (Str × Addr)} {qual y : Str} {env : Env} {globals : Addr}
theorem wp_newEnvK {Q : Env → Shared → Prop} (hcells : ∀ k, cellsFrom k scope.names cl = (y, k) :: cl) (hpush : ∀ h, pushCells h scope.names = h.push cellO)
    (hQ : ∀ h', h'.Ns s.heap.objs.size (fun _ => none) → h'.get? (s.heap.objs.size + 1) = some cellO → (∀ b o, s.heap.get? b = some o → h'.get? b = some o) →
      Q (newEnv scope s.heap.objs.size globals ((y, s.heap.objs.size + 1) :: cl) qual none .none (some env) builtinsNs) { s with heap := h' }) :
    wpAny M A (newFunctionEnv scope globals cl [] qual none .none (some env)) Q E s := by
  simp only [newFunctionEnv, Option.isSome_some, if_true]
  refine wpAny_bind (wpAny_alloc ?_)
  refine wpAny_bind (wpAny_layCells _ (fun name kind cells => by cases hkc : kind == NameKind.cell <;> simp [hkc]) _ _ _ _ ?_)
  rw [List.forIn_nil, hcells, hpush]
  refine wpAny_bind (wpAny_pure (wpAny_pure ?_))
  rw [show ({ s with heap := s.heap.push { cls := .type "dict", data := .dict #[] } } : Shared).heap.objs.size = s.heap.objs.size + 1 from Heap.size_push ..]
  refine hQ _ ((Heap.Ns.new s.heap (.type "dict")).keeps fun b o e => Heap.get?_push_of_some _ e) ?_ fun b o e => Heap.get?_push_of_some _ (Heap.get?_push_of_some _ e)
  have := Heap.get?_push_size (s.heap.push { cls := .type "dict", data := .dict #[] }) (o := cellO) rfl
  rw [Heap.size_push] at this
  exact this
end
section
variable {c : GC} {A : Around} {env : Env} {r : Rec} {L : Addr} {loc : Loc} {scope : Scope} {cl : List (Str × Addr)} {y : Str}
theorem intosK (hcells : ∀ k, cellsFrom k scope.names cl = (y, k) :: cl) (hpush : ∀ h, pushCells h scope.names = h.push cellO) : Intos c A env r L loc scope cl (fun K => [(K, .cell none)]) (fun K => (y, K) :: cl) := fun g₁ own₁ s Q E D₁ k =>
  wp_newEnvK hcells hpush fun h₂ hns hK up => by
    have hnK : s.heap.get? (s.heap.objs.size + 1) = none := Heap.get?_none_of_le (Nat.le_succ _)
    obtain ⟨m, kn, D₂⟩ := D₁.into up (Heap.get?_push_self_none _) hns
    refine k h₂ _ m _ kn up (D₂.add (x := .cell none) hK rfl (FB.none_of D₁.gh hnK) (fun q => ?_) (Nat.succ_ne_self _) (D₁.none_of hnK))
    obtain ⟨p, hp, ee⟩ := List.mem_map.mp q
    rcases List.mem_cons.mp hp with rfl | hp
    · obtain ⟨o, eo⟩ := D₁.ns.live
      have ee : L = s.heap.objs.size + 1 := ee
      rw [ee, hnK] at eo; cases eo
    · obtain ⟨⟨o, eo, _⟩, _⟩ := D₁.ow p hp
      rw [ee, hnK] at eo; cases eo
end
theorem compTurn_flat0 (elt t1 i1 t2 i2 : Expr) (scope : Scope) (pos : Pos) (it acc : Value) (env : Env) :
    compTurn (.ListComp elt [⟨t1, i1, [], 0⟩, ⟨t2, i2, [], 0⟩] scope pos) 0 it acc env = (do
      standAt i1.pos
      match ← pyNext it with
      | none => pure (.done .next)
      | some v =>
        letOwnedTupleGo t1 it v
        assign t1 env v
        let x ← eval i2 env
        standAt i2.pos
        let x ← foldedSetIterable i2 env x
        let _ ← runOwn (.compStart (.ListComp elt [⟨t1, i1, [], 0⟩, ⟨t2, i2, [], 0⟩] scope pos) 1 (← holding [x] (pyIter x)) acc env) env
        again (.compLoop (.ListComp elt [⟨t1, i1, [], 0⟩, ⟨t2, i2, [], 0⟩] scope pos) 0 it acc env)) := by rfl
theorem compTurn_flat1 (elt t1 i1 t2 i2 : Expr) (scope : Scope) (pos : Pos) (it acc : Value) (env : Env) :
    compTurn (.ListComp elt [⟨t1, i1, [], 0⟩, ⟨t2, i2, [], 0⟩] scope pos) 1 it acc env = (do
      standAt i2.pos
      match ← pyNext it with
      | none => pure (.done .next)
      | some v =>
        letOwnedTupleGo t2 it v
        assign t2 env v
        (do let _ ← call (.builtin "list.append") [acc, ← eval elt env])
        again (.compLoop (.ListComp elt [⟨t1, i1, [], 0⟩, ⟨t2, i2, [], 0⟩] scope pos) 1 it acc env)) := by rfl
section
variable {c : GC} {A : Around} {elt t1 i1 t2 i2 : Expr} {scope : Scope} {pos : Pos} {it acc : Value} {cenv : Env} {RS : Result → Shared → Prop} {g g₀ : FB} {X : Nat → Led → Heap → Prop} {n : Nat} {item : Nat → Dt} {r : Rec} {own pre : Led} {L : Addr} {loc : Loc} {s : Shared}
theorem flat_loop1 (I : Iter c A t2 it g₀ X n item) (x : X 0 pre s.heap) (D : St c r g (pre ++ own) L loc s.heap) (s₀ : Sub g₀ g) (hn : ∀ pre i h, X i pre h → ∀ p ∈ pre, r.h.get? p.1 = none)
    (J : Nat → FB → Led → Loc → Prop) (j0 : J 0 g own loc)
    (turn : ∀ i g' g₂ own loc h v pre (N : Heap → Prop), i < n → J i g' own loc → Sub g g' → Sub g' g₂ → St c r g₂ (pre ++ own) L loc h → Den g₂ v (item i) →
      (∀ g'' own' loc' h₆, J (i + 1) g'' own' loc' → Sub g₂ g'' → St c r g'' (pre ++ own') L loc' h₆ → N h₆) →
      Wp c A (assign t2 cenv v) (fun _ h₃ => Wp c A (eval elt cenv) (fun w h₅ => Wp c A (call (.builtin "list.append") [acc, w]) (fun _ h₆ => N h₆) NoE h₅) NoE h₃) NoE h)
    (fin : ∀ g' own loc (s : Shared), J n g' own loc → Sub g g' → St c r g' own L loc s.heap → Rest c s → RS (.ok .next) s) (hr : Rest c s) :
    codeAny (Mo c) A (.compLoop (.ListComp elt [⟨t1, i1, [], 0⟩, ⟨t2, i2, [], 0⟩] scope pos) 1 it acc cenv) RS s := by
  obtain ⟨J', n', j', turn'⟩ := iterJ I x D s₀ hn J j0 turn (F := fun h => ∀ s : Shared, s.heap = h → Rest c s → RS (.ok .next) s) fun g' own loc h j s D s' e r => fin g' own loc s' j s (e ▸ D) r
  refine loopG (p := i2.pos) (cenv := cenv) (REST := fun v => do
    assign t2 cenv v
    (do let _ ← call (.builtin "list.append") [acc, ← eval elt cenv])
    again (.compLoop (.ListComp elt [⟨t1, i1, [], 0⟩, ⟨t2, i2, [], 0⟩] scope pos) 1 it acc cenv)) rfl (fun Q E s h => ?_) J' turn' (fun s f r => f s rfl r) (fun N v s Q E b r k => ?_) n' j' hr
  · show wpAny _ A ((compTurn (.ListComp elt [⟨t1, i1, [], 0⟩, ⟨t2, i2, [], 0⟩] scope pos) 1 it acc cenv).onRaise (fun x => do noteFrame x cenv; theTreesLotGoes x)) _ _ s
    rw [compTurn_flat1]
    exact h
  · exact wpAny_bind (b.runN r fun _ s₃ y r => wpAny_bind (wpAny_bind (y.runN r fun w s₅ y r => wpAny_bind (y.runN r fun _ s₆ y r => wpAny_pure (wpAny_pure (k s₆ y r))))))
theorem flat_start1 (h0 : ∀ s' : Shared, s'.heap = s.heap → Rest c s' → codeAny (Mo c) A (.compLoop (.ListComp elt [⟨t1, i1, [], 0⟩, ⟨t2, i2, [], 0⟩] scope pos) 1 it acc cenv) RS s')
    (h1 : Wp c A (pyIter it) (fun it' h' => it' = it ∧ h' = s.heap) NoE s.heap) (hr : Rest c s) :
    codeAny (Mo c) A (.compStart (.ListComp elt [⟨t1, i1, [], 0⟩, ⟨t2, i2, [], 0⟩] scope pos) 1 it acc cenv) RS s := by
  refine codeAny_of_tree ?_
  show wpAny _ _ ((compStart (.ListComp elt [⟨t1, i1, [], 0⟩, ⟨t2, i2, [], 0⟩] scope pos) 1 it acc cenv).onRaise (fun x => do noteFrame x cenv; standAt theWindowsPlace)) _ _ s
  refine wpAny_notedAt ?_
  unfold compStart
  show wpAny _ _ (ask >>= _) _ _ s
  refine wpAny_bind (wpAny_askSetting (wpAny_ite ?_))
  split
  · first
      | exact wpAny_bind (wpAny_pure (wpAny_pure (And.intro rfl (h0 s rfl hr))))
      | exact wpAny_pure (And.intro rfl (h0 s rfl hr))
  · refine wpAny_bind (wpAny_rule ?_)
    show wpAny _ _ (standAt i2.pos >>= _) _ _ s
    exact wpAny_bind (wpAny_standAt (wpAny_bind (h1.runN hr fun it' s' y r' => wpAny_pure (And.intro rfl (y.1 ▸ h0 s' y.2 r')))))
theorem flat_loop0 (hs : ∀ x, foldedSetIterable i2 cenv x = pure x) (I : Iter c A t1 it g₀ X n item) (x : X 0 pre s.heap) (D : St c r g (pre ++ own) L loc s.heap) (s₀ : Sub g₀ g) (hn : ∀ pre i h, X i pre h → ∀ p ∈ pre, r.h.get? p.1 = none)
    (J : Nat → FB → Led → Loc → Prop) (j0 : J 0 g own loc)
    (turn : ∀ i g' g₂ own loc h v pre (N : Heap → Prop), i < n → J i g' own loc → Sub g g' → Sub g' g₂ → St c r g₂ (pre ++ own) L loc h → Den g₂ v (item i) →
      (∀ g'' own' loc' h₆, J (i + 1) g'' own' loc' → Sub g₂ g'' → St c r g'' (pre ++ own') L loc' h₆ → N h₆) →
      Wp c A (assign t1 cenv v) (fun _ h₃ => Wp c A (eval i2 cenv) (fun x h₄ => Wp c A (pyIter x) (fun it2 h₅ => ∀ s₅ : Shared, s₅.heap = h₅ → Rest c s₅ → ∀ RS : Result → Shared → Prop, (∀ s₆ : Shared, N s₆.heap → Rest c s₆ → RS (.ok .next) s₆) →
          codeAny (Mo c) A (.compStart (.ListComp elt [⟨t1, i1, [], 0⟩, ⟨t2, i2, [], 0⟩] scope pos) 1 it2 acc cenv) RS s₅) NoE h₄) NoE h₃) NoE h)
    (fin : ∀ g' own loc (s : Shared), J n g' own loc → Sub g g' → St c r g' own L loc s.heap → Rest c s → RS (.ok .next) s) (hr : Rest c s) :
    codeAny (Mo c) A (.compLoop (.ListComp elt [⟨t1, i1, [], 0⟩, ⟨t2, i2, [], 0⟩] scope pos) 0 it acc cenv) RS s := by
  obtain ⟨J', n', j', turn'⟩ := iterJ I x D s₀ hn J j0 turn (F := fun h => ∀ s : Shared, s.heap = h → Rest c s → RS (.ok .next) s) fun g' own loc h j s D s' e r => fin g' own loc s' j s (e ▸ D) r
  refine loopG (p := i1.pos) (cenv := cenv) (REST := fun v => do
    assign t1 cenv v
    let x ← eval i2 cenv
    standAt i2.pos
    let x ← foldedSetIterable i2 cenv x
    let _ ← runOwn (.compStart (.ListComp elt [⟨t1, i1, [], 0⟩, ⟨t2, i2, [], 0⟩] scope pos) 1 (← holding [x] (pyIter x)) acc cenv) cenv
    again (.compLoop (.ListComp elt [⟨t1, i1, [], 0⟩, ⟨t2, i2, [], 0⟩] scope pos) 0 it acc cenv)) rfl (fun Q E s h => ?_) J' turn' (fun s f r => f s rfl r) (fun N v s Q E b r k => ?_) n' j' hr
  · show wpAny _ A ((compTurn (.ListComp elt [⟨t1, i1, [], 0⟩, ⟨t2, i2, [], 0⟩] scope pos) 0 it acc cenv).onRaise (fun x => do noteFrame x cenv; theTreesLotGoes x)) _ _ s
    rw [compTurn_flat0]
    exact h
  · refine wpAny_bind (b.runN r fun _ s₃ y r => wpAny_bind (y.runN r fun x s₄ y r => wpAny_bind (wpAny_standAt (wpAny_bind ?_))))
    rw [hs]
    exact wpAny_pure (wpAny_bind (wpAny_holding (y.runN r fun it2 s₅ y r => wpAny_bind (wpAny_runOwn (y s₅ rfl r _ fun s₆ nn r => wpAny_pure (k s₆ nn r))))))
end
section
variable {c : GC} {A : Around} {env : Env} {r : Rec} {g g₀ : FB} {own pre : Led} {L : Addr} {loc : Loc} {h : Heap} {i1 : Expr} {scope : Scope} {pos px py ix ey : Pos} {cl : List (Str × Addr)} {x y : Str} {E : Value → Heap → Prop} {rows : List (List Int)}
theorem flat_take (rows : List (List Int)) {i : Nat} (hi : i < rows.length) : (rows.take (i + 1)).flatten = (rows.take i).flatten ++ rows.getD i [] := by
  rw [List.take_add_one, List.getD_eq_getElem?_getD, List.getElem?_eq_getElem hi, List.flatten_append]
  congr 1
  simp
theorem flat_len_le (rows : List (List Int)) (i : Nat) : (rows.take i).flatten.length ≤ rows.flatten.length := by
  conv => rhs; rw [← List.take_append_drop i rows, List.flatten_append, List.length_append]
  (first | lia | omega)
theorem Wp_flat {Q : Value → Heap → Prop} (D : St c r g own L loc h) (F : Fn env L) (hh : A.handled = none) {item : Nat → Dt} (src : Src c A env (.Name x px) i1 r g own L loc h rows.length item E) (hitem : ∀ i, i < rows.length → item i = .lst ((rows.getD i []).map .int))
    (hclos : closureFor scope env = pure cl) (hcell : ∀ z ∈ scope.names, z.2 ≠ .cell) (hk : scope.kind = .function) (hnames : ∀ z ∈ scope.names, z.2 = .local → scope.names.lookup z.1 = some .local) (hs : ∀ v, foldedSetIterable i1 env v = pure v)
    (hx : scope.names.lookup x = some .local) (hy : scope.names.lookup y = some .local) (hxd : (x == ("__debug__" : Str)) = false) (hyd : (y == ("__debug__" : Str)) = false) (hsz : rows.flatten.length ≤ sizeLine)
    (fin : ∀ acc g' h', r.h.get? acc = none → Sub g g' → St c r g' ((acc, .lst (rows.flatten.map .int)) :: own) L loc h' → Q (.ref acc) h') :
    Wp c A (eval (.ListComp (.Name y ey) [⟨.Name x px, i1, [], 0⟩, ⟨.Name y py, .Name x ix, [], 0⟩] scope pos) env) Q E h := by
  refine Wp_eq (eval_ListComp ..) ⟨fun s hs' hr => wpAny_comprehension_free (use := none) rfl hs hclos hk hnames (src.run hs' hr fun it s₂ g₂ pre X g₀ I x₀ D₂ sg s₀ hn r₂ => newList_run D₂ r₂ fun acc s₃ g₃ D₃ hna sg₃ up₃ r₃ => intosN hcell hk g₃ _ s₃ _ _ D₃ fun h₄ C m _ kn up₄ D₄ => ?_)⟩
  have x₄ : X 0 pre h₄ := I.fr x₀ (fun p _ o e => up₄ _ _ (up₃ _ _ e)) (fun a o e => D₂.gh _ _ (s₀ _ _ e)) (fun a o e => D₄.gh _ _ (sg₃ _ _ (s₀ _ _ e)))
  have D₅ : St c r g₃ (pre ++ ((acc, .lst (((rows.take 0).flatten).map .int)) :: (L, .fm m) :: own)) C [] h₄ := D₄.perm ((List.perm_middle (l₁ := pre)).trans (.trans (.cons _ (List.perm_middle (l₁ := pre))) (.swap _ _ _)))
  have Fc := F.comp (scope := scope) (cl := cl) hk C
  have loop : ∀ s₅ : Shared, s₅.heap = h₄ → Rest c s₅ → codeAny (Mo c) A (.compLoop (.ListComp (.Name y ey) [⟨.Name x px, i1, [], 0⟩, ⟨.Name y py, .Name x ix, [], 0⟩] scope pos) 0 it (.ref acc) (compEnvC scope cl C env)) (compPost (Mo c) A (fun e s' => E e s'.heap ∧ Rest c s') none (fun a s' => Q a s'.heap ∧ Rest c s') (.ref acc) C) s₅ := by
    intro s₅ e r₅
    refine flat_loop0 (fun _ => rfl) I (e ▸ x₄) (e ▸ D₅) (s₀.trans sg₃) hn (fun i _ ow _ => ow = (acc, .lst (((rows.take i).flatten).map .int)) :: (L, .fm m) :: own) rfl ?turn ?fin r₅
    case turn =>
      rintro i g₅ g₆ _ loc₆ h₆ v pre₂ N hi rfl s₅ s₆ D₆ dv k
      rw [hitem i hi] at dv
      have hft := flat_take rows hi
      have hfl := flat_len_le rows (i + 1)
      rw [hft] at k hfl
      rw [List.length_append] at hfl
      generalize rows.getD i [] = row at *
      generalize (rows.take i).flatten = done at *
      refine Wp_asgL D₆ dv Fc (lookup_relabel_local hx) fun h₇ D₇ => ?_
      refine (eLoc (d := .lst (row.map .int)) D₇ (by rw [List.lookup_cons]; simp) rfl Fc.k (lookup_relabel_local hx) hxd).wp D₇ fun v₈ g₈ h₈ D₈ G₈ dv₈ => ?_
      refine itList (target := .Name y py) D₈ hh dv₈ (fun _ _ => rfl) fun it2 g₉ h₉ pre₃ X₃ g₃ I₃ x₃ D₉ s₉ s₃ hn₃ s₁₀ e₁₀ r₁₀ RS hRS => ?_
      rw [List.length_map] at I₃
      subst e₁₀
      refine flat_start1 (fun s' e' r' => ?_) (I₃.self x₃ _ _ ⟨rfl, rfl⟩) r₁₀
      refine flat_loop1 I₃ (e' ▸ x₃) (e' ▸ D₉) s₃ hn₃ (fun j _ ow _ => ow = pre₂ ++ ((acc, .lst ((done ++ row.take j).map .int)) :: (L, .fm m) :: own)) (by rw [List.take_zero, List.append_nil]) ?turn1 ?fin1 r'
      case turn1 =>
        rintro j g₁₀ g₁₁ _ loc₁₁ h₁₁ v₁₁ pre₄ N' hj rfl s₁₀ s₁₁ D₁₁ dv₁₁ k'
        have ej : (row.map Dt.int).getD j .none = .int (row.getD j 0) := by
          simp [List.getD_eq_getElem?_getD, List.getElem?_eq_getElem hj]
        rw [ej] at dv₁₁
        have etk : row.take (j + 1) = row.take j ++ [row.getD j 0] := by
          rw [List.take_add_one, List.getD_eq_getElem?_getD, List.getElem?_eq_getElem hj]; rfl
        rw [etk, ← List.append_assoc, List.map_append] at k'
        have hjl : (row.take j).length = j := by rw [List.length_take]; (first | lia | omega)
        refine Wp_asgL D₁₁ dv₁₁ Fc (lookup_relabel_local hy) fun h₁₂ D₁₂ => ?_
        refine (eLoc (d := .int (row.getD j 0)) D₁₂ (by rw [List.lookup_cons]; simp) rfl Fc.k (lookup_relabel_local hy) hyd).wp D₁₂ fun v₁₃ g₁₃ h₁₃ D₁₃ G₁₃ dv₁₃ => ?_
        refine Wp_append D₁₃ dv₁₃ (Up.app (Up.app .head)) (by rw [List.length_map, List.length_append, hjl]; (first | lia | omega)) fun h₁₅ D₁₅ => k' _ _ _ _ rfl G₁₃.sub D₁₅
      case fin1 =>
        rintro g₁₀ _ loc₁₀ s₁₁ rfl s₁₀ D₁₀ r₁₁
        rw [List.take_length] at D₁₀
        exact hRS s₁₁ (k _ _ _ _ rfl ((G₈.sub.trans s₉).trans s₁₀) D₁₀) r₁₁
    case fin =>
      rintro g₅ _ loc₅ s₆ rfl s₅ D₆ r₆
      rw [List.take_length] at D₆
      obtain ⟨m', n', _⟩ := D₆.ns
      exact ⟨m', n', fun h₃ hsb => ⟨fin acc g₅ h₃ hna ((sg.trans sg₃).trans s₅) (((D₆.weak (loc' := []) (fun _ _ q => nomatch q)).perm (.swap _ _ _)).outof D.Lr (kn.mono s₅) fun b o hb e => hsb.extBut b o hb e), r₆⟩⟩
  exact codeAny_compStart_list (loop _ rfl r₃) ((I.self x₄ (fun it' h' => it' = it ∧ h' = h₄) NoE ⟨rfl, rfl⟩).runN r₃ fun it' s' y r' => by rw [y.1]; exact loop s' y.2 r')
end
theorem Dens.refs {g : FB} {vs : List Value} : ∀ {as : List Addr}, Dens g vs (as.map .ref) → vs = as.map Value.ref := by
  intro as
  induction as generalizing vs with
  | nil => intro k; cases k; rfl
  | cons a as ih =>
    intro k
    obtain _ | ⟨p, ps⟩ := k
    rw [p.ref_inv, ih ps]; rfl
section
variable {c : GC} {r : Rec} {own : Led} {L : Addr} {loc : Loc} {h : Heap}
theorem St.freezeG : ∀ {as : List Addr} {gs : List (Int × Int)} {g : FB}, St c r g (gled as gs ++ own) L loc h → (∀ a ∈ as, r.h.get? a = none) → as.length = gs.length →
    ∃ g', St c r g' own L loc h ∧ Sub g g' ∧ Dens g' (as.map Value.ref) (gs.map fun p => Dt.lst [.int p.1, .int p.2])
  | [], [], g, D, _, _ => ⟨g, D, .rfl, .nil⟩
  | a :: as, p :: gs, g, D, ha, hl => by
    obtain ⟨o, ⟨vs, n, rfl, kv⟩, D', s, e⟩ := St.freeze (d := a) (x := .lst [.int p.1, .int p.2]) (own' := gled as gs ++ own) D (.take .all) (ha a (.head _))
    obtain ⟨g', D'', s', k⟩ := St.freezeG D' (fun b hb => ha b (.tail _ hb)) (by simpa using hl)
    exact ⟨g', D'', s.trans s', .cons (.lst (s' _ _ e) (kv.mono (s.trans s'))) k⟩
  | [], _ :: _, g, D, _, hl => by simp at hl
  | _ :: _, [], g, D, _, hl => by simp at hl
end
section
variable {c : GC} {A : Around} {g : FB} {h : Heap} {v w : Value} {ds es : List Dt}
theorem ev_addD (p : Den g v (.lst ds)) (q : Den g w (.lst es)) (hsz : ds.length + es.length ≤ sizeLine) : Ev c A (binaryOp .Add v w) g h fun g' _ u => Den g' u (.lst (ds ++ es)) :=
  ⟨fun g₁ h₁ G Q E k => by
    obtain ⟨a, vs, n, rfl, ea, ka⟩ := p.lst_inv
    obtain ⟨b, ws, m, rfl, eb, kb⟩ := q.lst_inv
    refine (ev_addL (c := c) (A := A) (g := g₁) (h := h₁) ⟨vs, n, G.gh _ _ (G.sub _ _ ea), ka.mono G.sub⟩ ⟨ws, m, G.gh _ _ (G.sub _ _ eb), kb.mono G.sub⟩ hsz g₁ h₁ G.here).go g₁ h₁ G.here Q E fun u g₂ h₂ G₂ ⟨x, eu, hn, gn, us, k', eo, ku⟩ => ?_
    subst eu
    obtain ⟨G₃, sb, e'⟩ := G₂.fz hn gn eo
    exact k _ _ _ G₃ (.lst e' (ku.mono sb))⟩
end
inductive Tm where
  | leaf (k x : Int)
  | node (k : Int) (a b : Tm)
noncomputable def Tm.dt : Tm → Dt
  | .leaf k x => .lst [.int k, .int x]
  | .node k a b => .lst [.int k, a.dt, b.dt]
noncomputable def termF : Nat → List Int → Tm × List Int
  | 0, ns => (.leaf 0 1007, ns)
  | _ + 1, [] => (.leaf 0 1007, [])
  | n + 1, x :: ns => if x.fmod 6 < 2 then (.leaf (x.fmod 6) (x.fdiv 6), ns) else
      (.node (min (x.fmod 6) 4) (termF n ns).1 (termF n (termF n ns).2).1, (termF n (termF n ns).2).2)
theorem termF_len : ∀ n ns, (termF n ns).2.length ≤ ns.length
  | 0, ns => by simp [termF]
  | _ + 1, [] => by simp [termF]
  | n + 1, x :: ns => by
    unfold termF
    split
    · simp
    · have h1 := termF_len n ns
      have h2 := termF_len n (termF n ns).2
      simp only [List.length_cons]; (first | lia | omega)
theorem termF_mem : ∀ n ns, ∀ x ∈ (termF n ns).2, x ∈ ns
  | 0, ns => by simp [termF]
  | _ + 1, [] => by simp [termF]
  | n + 1, x :: ns => by
    unfold termF
    split
    · intro y hy; exact .tail _ hy
    · intro y hy
      exact .tail _ (termF_mem n ns y (termF_mem n _ y hy))
theorem termF_leaf {n : Nat} {x : Int} {ns : List Int} (h : x.fmod 6 < 2) : termF (n + 1) (x :: ns) = (.leaf (x.fmod 6) (x.fdiv 6), ns) := if_pos h
theorem termF_node {n : Nat} {x : Int} {ns : List Int} (h : ¬ x.fmod 6 < 2) : termF (n + 1) (x :: ns) = (.node (min (x.fmod 6) 4) (termF n ns).1 (termF n (termF n ns).2).1, (termF n (termF n ns).2).2) := if_neg h
section
variable {c : GC}
theorem term_spec : ∀ (n : Nat) {A : Around} {g : FB} {h : Heap} {a : Addr} {v : Value} {ns : List Int}, ns.length < n → ns.length < 100 → Rm A (n + 1) (3 * n + 100) → Pre c g [(a, .lst (ns.map .int))] h → Den g v (.ref a) →
    Cd c A (.call (.ref 114) ⟨[v], []⟩) (fun r h' => ∃ v g' own', r = .ok (.ret v) ∧ Ret ⟨g, h, [a]⟩ g' own' h' ∧ own' = [(a, .lst ((termF n ns).2.map .int))] ∧ Den g' v (termF n ns).1.dt) h := by
  intro n
  induction n with
  | zero => intro A g h a v ns hn; (first | lia | omega)
  | succ n ih =>
  intro A g h a v ns hn hl R P hv
  refine enterD (binds := [("tokens", v)]) P rfl rfl R (fun s hs => .of_eq rfl) (locs rfl) (by decide) rfl rfl rfl (lookup1 hv) fun L h₁ D F R' => ?_
  have hcl := R'.u
  refine sAssignW (Wp_IfExp ((bNeL (b := !ns.isEmpty) (n := 0) (m := 0) (lR (eLoc D rfl rfl rfl rfl (by decide)) (D.lstAt (.head _))) (lN D.gr (eList aNil (by decide))) .ints .nil (by decide) (by decide) (by (first | lia | omega)) (by cases ns <;> simp) rfl).wp D fun b g₁ h₂ D₁ G₁ e => ?_)) rfl
  subst e
  cases ns with
  | nil =>
    refine ⟨fun q => (by simp at q), fun _ => ?_⟩
    refine (eInt (c := c)).wp D₁ fun v g₂ h₃ D₂ G₂ p => Wp_storeL D₂ p F rfl fun h₄ D₃ => ?_
    refine' sIf D₃ ?t ?_ ?_
    case t => (repeat' (first | with_reducible exact eInt | ((with_reducible refine' eLoc (by assumption) ?_ ?_ ?_ ?_ ?_) <;> first | rfl | decide) | exact eGlob (St.bas (by assumption)) rfl (fun _ => .int _ _) rfl rfl rfl rfl | with_reducible refine' eMod ?_ ?_ ?_ | with_reducible refine' eDiv ?_ ?_ ?_ ?_ | with_reducible refine' eAdd ?_ ?_ | with_reducible refine' eNeg ?_ | with_reducible refine' eInv ?_ | with_reducible refine' bLt ?_ ?_ ?_ | with_reducible refine' bGt ?_ ?_ ?_ | with_reducible refine' bEq ?_ ?_ ?_ | with_reducible refine' eMin (Rm.hn (by assumption)) ?_ ?_ ?_ ⟨_, _, rfl⟩ | with_reducible exact aNil | with_reducible refine' aCons ?_ ?_ ?_ | ((with_reducible show _ ≠ (0 : Int)); first | decide | (first | lia | omega)) | ((with_reducible show Builtin.divisionGoesByPylong _ _ = false); first | exact PyProof.noPylong_of_log2 (by decide +kernel) | exact PyProof.noPylong_small (by (first | lia | omega))) | ((with_reducible show behindInMarks _ _ = false); rfl) | ((with_reducible show starEach _ _ = _); rfl) | ((with_reducible show List.any _ _ = _); rfl) | ((with_reducible show Ev _ _ (eval (Expr.Name _ _) _) _ _ _); (first | exact evGlob (St.bas (by assumption)) rfl rfl rfl rfl (by decide) | exact evBuilt (St.bas (by assumption)) rfl rfl (by decide) rfl rfl rfl rfl (by decide)))))
    · intro _ g₄ h₅ D₄ sb
      refine' sReturnD D₄ (eFz (eList ?a ?s)) ?_
      case a => (repeat' (first | with_reducible exact eInt | ((with_reducible refine' eLoc (by assumption) ?_ ?_ ?_ ?_ ?_) <;> first | rfl | decide) | exact eGlob (St.bas (by assumption)) rfl (fun _ => .int _ _) rfl rfl rfl rfl | with_reducible refine' eMod ?_ ?_ ?_ | with_reducible refine' eDiv ?_ ?_ ?_ ?_ | with_reducible refine' eAdd ?_ ?_ | with_reducible refine' eNeg ?_ | with_reducible refine' eInv ?_ | with_reducible refine' bLt ?_ ?_ ?_ | with_reducible refine' bGt ?_ ?_ ?_ | with_reducible refine' bEq ?_ ?_ ?_ | with_reducible refine' eMin (Rm.hn (by assumption)) ?_ ?_ ?_ ⟨_, _, rfl⟩ | with_reducible exact aNil | with_reducible refine' aCons ?_ ?_ ?_ | ((with_reducible show _ ≠ (0 : Int)); first | decide | (first | lia | omega)) | ((with_reducible show Builtin.divisionGoesByPylong _ _ = false); first | exact PyProof.noPylong_of_log2 (by decide +kernel) | exact PyProof.noPylong_small (by (first | lia | omega))) | ((with_reducible show behindInMarks _ _ = false); rfl) | ((with_reducible show starEach _ _ = _); rfl) | ((with_reducible show List.any _ _ = _); rfl) | ((with_reducible show Ev _ _ (eval (Expr.Name _ _) _) _ _ _); (first | exact evGlob (St.bas (by assumption)) rfl rfl rfl rfl (by decide) | exact evBuilt (St.bas (by assumption)) rfl rfl (by decide) rfl rfl rfl rfl (by decide)))))
      case s => simp only [List.length_cons, List.length_nil]; decide
      intro v g₅ h₆ D₅ sb' p'
      exact ⟨v, g₅, _, rfl, D₅.toRet, rfl, p'⟩
    · intro q; simp at q
  | cons x ns =>
    refine ⟨fun _ => ?_, fun q => (by simp at q)⟩
    simp only [List.length_cons] at hn hl
    refine Wp_callPop0 D₁ (eLoc D₁ rfl rfl rfl rfl (by decide)) .head (by (first | decide | (first | lia | omega) | (simp only [List.length_cons, List.length_nil, List.length_map, List.length_append, List.length_reverse, List.length_set, sizeLine_eq] at *; (first | lia | omega)))) rfl rfl fun v g₂ h₃ D₂ sb₂ p => Wp_storeL D₂ p F rfl fun h₄ D₃ => ?_
    refine' sIf D₃ ?t ?_ ?_
    case t => (repeat' (first | with_reducible exact eInt | ((with_reducible refine' eLoc (by assumption) ?_ ?_ ?_ ?_ ?_) <;> first | rfl | decide) | exact eGlob (St.bas (by assumption)) rfl (fun _ => .int _ _) rfl rfl rfl rfl | with_reducible refine' eMod ?_ ?_ ?_ | with_reducible refine' eDiv ?_ ?_ ?_ ?_ | with_reducible refine' eAdd ?_ ?_ | with_reducible refine' eNeg ?_ | with_reducible refine' eInv ?_ | with_reducible refine' bLt ?_ ?_ ?_ | with_reducible refine' bGt ?_ ?_ ?_ | with_reducible refine' bEq ?_ ?_ ?_ | with_reducible refine' eMin (Rm.hn (by assumption)) ?_ ?_ ?_ ⟨_, _, rfl⟩ | with_reducible exact aNil | with_reducible refine' aCons ?_ ?_ ?_ | ((with_reducible show _ ≠ (0 : Int)); first | decide | (first | lia | omega)) | ((with_reducible show Builtin.divisionGoesByPylong _ _ = false); first | exact PyProof.noPylong_of_log2 (by decide +kernel) | exact PyProof.noPylong_small (by (first | lia | omega))) | ((with_reducible show behindInMarks _ _ = false); rfl) | ((with_reducible show starEach _ _ = _); rfl) | ((with_reducible show List.any _ _ = _); rfl) | ((with_reducible show Ev _ _ (eval (Expr.Name _ _) _) _ _ _); (first | exact evGlob (St.bas (by assumption)) rfl rfl rfl rfl (by decide) | exact evBuilt (St.bas (by assumption)) rfl rfl (by decide) rfl rfl rfl rfl (by decide)))))
    · intro q g₄ h₅ D₄ sb
      refine' sReturnD D₄ (eFz (eList ?a ?s)) ?_
      case a => (repeat' (first | with_reducible exact eInt | ((with_reducible refine' eLoc (by assumption) ?_ ?_ ?_ ?_ ?_) <;> first | rfl | decide) | exact eGlob (St.bas (by assumption)) rfl (fun _ => .int _ _) rfl rfl rfl rfl | with_reducible refine' eMod ?_ ?_ ?_ | with_reducible refine' eDiv ?_ ?_ ?_ ?_ | with_reducible refine' eAdd ?_ ?_ | with_reducible refine' eNeg ?_ | with_reducible refine' eInv ?_ | with_reducible refine' bLt ?_ ?_ ?_ | with_reducible refine' bGt ?_ ?_ ?_ | with_reducible refine' bEq ?_ ?_ ?_ | with_reducible refine' eMin (Rm.hn (by assumption)) ?_ ?_ ?_ ⟨_, _, rfl⟩ | with_reducible exact aNil | with_reducible refine' aCons ?_ ?_ ?_ | ((with_reducible show _ ≠ (0 : Int)); first | decide | (first | lia | omega)) | ((with_reducible show Builtin.divisionGoesByPylong _ _ = false); first | exact PyProof.noPylong_of_log2 (by decide +kernel) | exact PyProof.noPylong_small (by (first | lia | omega))) | ((with_reducible show behindInMarks _ _ = false); rfl) | ((with_reducible show starEach _ _ = _); rfl) | ((with_reducible show List.any _ _ = _); rfl) | ((with_reducible show Ev _ _ (eval (Expr.Name _ _) _) _ _ _); (first | exact evGlob (St.bas (by assumption)) rfl rfl rfl rfl (by decide) | exact evBuilt (St.bas (by assumption)) rfl rfl (by decide) rfl rfl rfl rfl (by decide)))))
      case s => simp only [List.length_cons, List.length_nil]; decide
      intro v g₅ h₆ D₅ sb' p'
      have q' := of_decide_eq_true q
      refine ⟨v, g₅, _, rfl, D₅.toRet, ?_, ?_⟩
      · rw [termF_leaf q']
      · rw [termF_leaf q']; exact p'
    · intro q g₄ h₅ D₄ sb
      have q' := of_decide_eq_false q
      have l1 := termF_len n ns
      refine' sAssignW (Wp_CallM (ks := [a]) D₄ (by (first | exact evGlob (St.bas (by assumption)) rfl rfl rfl rfl (by decide) | exact evBuilt (St.bas (by assumption)) rfl rfl (by decide) rfl rfl rfl rfl (by decide))) (c.X _ _ rfl) rfl (aCons (eLoc D₄ rfl rfl rfl rfl (by decide)) aNil rfl) ⟨_, _, rfl⟩ (.take .all) (by simp) ?spec ?k) rfl
      case spec =>
        intro vs g₁ h₁ P₁ dv sb
        obtain ⟨v', rfl, dv'⟩ := dv.one_inv
        exact ih (by (first | lia | omega)) (by (first | lia | omega)) (R'.le (by (first | lia | omega)) (by (first | lia | omega))) P₁ dv'
      case k =>
        intro v₁ g₅ own₅ h₆ D₅ sb₅ p₅
        obtain ⟨rfl, p₅⟩ := p₅
        refine Wp_storeL D₅ p₅ F rfl fun h₇ D₆ => ?_
        refine sReturn (Wp_ListF D₆ (Wa_cons ?_ rfl))
        refine Ev.wp (P := fun g' _ v => Den g' v (.int (min (x.fmod 6) 4))) ?_ D₆ ?_
        · (repeat' (first | with_reducible exact eInt | ((with_reducible refine' eLoc (by assumption) ?_ ?_ ?_ ?_ ?_) <;> first | rfl | decide) | exact eGlob (St.bas (by assumption)) rfl (fun _ => .int _ _) rfl rfl rfl rfl | with_reducible refine' eMod ?_ ?_ ?_ | with_reducible refine' eDiv ?_ ?_ ?_ ?_ | with_reducible refine' eAdd ?_ ?_ | with_reducible refine' eNeg ?_ | with_reducible refine' eInv ?_ | with_reducible refine' bLt ?_ ?_ ?_ | with_reducible refine' bGt ?_ ?_ ?_ | with_reducible refine' bEq ?_ ?_ ?_ | with_reducible refine' eMin (Rm.hn (by assumption)) ?_ ?_ ?_ ⟨_, _, rfl⟩ | with_reducible exact aNil | with_reducible refine' aCons ?_ ?_ ?_ | ((with_reducible show _ ≠ (0 : Int)); first | decide | (first | lia | omega)) | ((with_reducible show Builtin.divisionGoesByPylong _ _ = false); first | exact PyProof.noPylong_of_log2 (by decide +kernel) | exact PyProof.noPylong_small (by (first | lia | omega))) | ((with_reducible show behindInMarks _ _ = false); rfl) | ((with_reducible show starEach _ _ = _); rfl) | ((with_reducible show List.any _ _ = _); rfl) | ((with_reducible show Ev _ _ (eval (Expr.Name _ _) _) _ _ _); (first | exact evGlob (St.bas (by assumption)) rfl rfl rfl rfl (by decide) | exact evBuilt (St.bas (by assumption)) rfl rfl (by decide) rfl rfl rfl rfl (by decide)))))
        intro w₁ g₆ h₈ D₇ G₇ q₁
        refine Wa_cons ((eLoc (d := (termF n ns).1.dt) D₇ rfl rfl rfl rfl (by decide)).wp D₇ fun w₂ g₇ h₉ D₈ G₈ q₂ => Wa_cons ?_ rfl) rfl
        refine' Wp_CallM (ks := [a]) D₈ (by (first | exact evGlob (St.bas (by assumption)) rfl rfl rfl rfl (by decide) | exact evBuilt (St.bas (by assumption)) rfl rfl (by decide) rfl rfl rfl rfl (by decide))) (c.X _ _ rfl) rfl (aCons (eLoc D₈ rfl rfl rfl rfl (by decide)) aNil rfl) ⟨_, _, rfl⟩ (.take .all) (by simp) ?spec ?k
        case spec =>
          intro vs g₁ h₁ P₁ dv sb
          obtain ⟨v', rfl, dv'⟩ := dv.one_inv
          exact ih (ns := (termF n ns).2) (by (first | lia | omega)) (by (first | lia | omega)) (R'.le (by (first | lia | omega)) (by (first | lia | omega))) P₁ dv'
        case k =>
          intro w₃ g₉ own₉ h₁₀ D₉ sb₉ p₉
          obtain ⟨rfl, p₉⟩ := p₉
          refine Wa_nil ⟨g₉, _, [.int (min (x.fmod 6) 4), (termF n ns).1.dt, (termF n (termF n ns).2).1.dt], D₉, .cons ((q₁.mono G₈.sub).mono sb₉) (.cons (q₂.mono sb₉) (.cons p₉ .nil)), by simp only [List.length_cons, List.length_nil]; decide, fun v g₂ h₂ D₁₀ sb pv => ?_⟩
          refine ⟨v, g₂, _, rfl, D₁₀.toRet, ?_, ?_⟩
          · rw [termF_node q']; rfl
          · rw [termF_node q']; exact pv
end
noncomputable def scost (x y : Str) : Int := if (x == y) = true then 0 else if (Txt.lower x == Txt.lower y) = true then 1 else 2
section
variable {c : GC}
theorem sub_spec {A : Around} {g : FB} {h : Heap} {v w : Value} {x y : Str} (R : Rm A 1 3) (P : Pre c g [] h) (hv : Den g v (.str x)) (hw : Den g w (.str y))
    (hx : Builtin.Str.tooLong (Txt.lower x).length = false) (hy : Builtin.Str.tooLong (Txt.lower y).length = false) :
    Cd c A (.call (.ref 100) ⟨[v, w], []⟩) (fun r h' => ∃ v g', r = .ok (.ret v) ∧ Gr g h g' h' ∧ Den g' v (.int (scost x y))) h := by
  refine enterD (dd := 0) (uu := 0) (binds := [("ch_a", v), ("ch_b", w)]) P rfl rfl R (fun s hs => .of_eq rfl) (locs rfl) (by decide) rfl rfl rfl (lookup2 hv hw) fun L h₁ D F R' => ?_
  refine' sIf D (bEqS ?a ?b ?c) ?_ ?_
  case a => (repeat' (first | with_reducible exact eInt | ((with_reducible refine' eLoc (by assumption) ?_ ?_ ?_ ?_ ?_) <;> first | rfl | decide) | exact eGlob (St.bas (by assumption)) rfl (fun _ => .int _ _) rfl rfl rfl rfl | with_reducible refine' eMod ?_ ?_ ?_ | with_reducible refine' eDiv ?_ ?_ ?_ ?_ | with_reducible refine' eAdd ?_ ?_ | with_reducible refine' eNeg ?_ | with_reducible refine' eInv ?_ | with_reducible refine' bLt ?_ ?_ ?_ | with_reducible refine' bGt ?_ ?_ ?_ | with_reducible refine' bEq ?_ ?_ ?_ | with_reducible refine' eMin (Rm.hn (by assumption)) ?_ ?_ ?_ ⟨_, _, rfl⟩ | with_reducible exact aNil | with_reducible refine' aCons ?_ ?_ ?_ | ((with_reducible show _ ≠ (0 : Int)); first | decide | (first | lia | omega)) | ((with_reducible show Builtin.divisionGoesByPylong _ _ = false); first | exact PyProof.noPylong_of_log2 (by decide +kernel) | exact PyProof.noPylong_small (by (first | lia | omega))) | ((with_reducible show behindInMarks _ _ = false); rfl) | ((with_reducible show starEach _ _ = _); rfl) | ((with_reducible show List.any _ _ = _); rfl) | ((with_reducible show Ev _ _ (eval (Expr.Name _ _) _) _ _ _); (first | exact evGlob (St.bas (by assumption)) rfl rfl rfl rfl (by decide) | exact evBuilt (St.bas (by assumption)) rfl rfl (by decide) rfl rfl rfl rfl (by decide)))))
  case b => (repeat' (first | with_reducible exact eInt | ((with_reducible refine' eLoc (by assumption) ?_ ?_ ?_ ?_ ?_) <;> first | rfl | decide) | exact eGlob (St.bas (by assumption)) rfl (fun _ => .int _ _) rfl rfl rfl rfl | with_reducible refine' eMod ?_ ?_ ?_ | with_reducible refine' eDiv ?_ ?_ ?_ ?_ | with_reducible refine' eAdd ?_ ?_ | with_reducible refine' eNeg ?_ | with_reducible refine' eInv ?_ | with_reducible refine' bLt ?_ ?_ ?_ | with_reducible refine' bGt ?_ ?_ ?_ | with_reducible refine' bEq ?_ ?_ ?_ | with_reducible refine' eMin (Rm.hn (by assumption)) ?_ ?_ ?_ ⟨_, _, rfl⟩ | with_reducible exact aNil | with_reducible refine' aCons ?_ ?_ ?_ | ((with_reducible show _ ≠ (0 : Int)); first | decide | (first | lia | omega)) | ((with_reducible show Builtin.divisionGoesByPylong _ _ = false); first | exact PyProof.noPylong_of_log2 (by decide +kernel) | exact PyProof.noPylong_small (by (first | lia | omega))) | ((with_reducible show behindInMarks _ _ = false); rfl) | ((with_reducible show starEach _ _ = _); rfl) | ((with_reducible show List.any _ _ = _); rfl) | ((with_reducible show Ev _ _ (eval (Expr.Name _ _) _) _ _ _); (first | exact evGlob (St.bas (by assumption)) rfl rfl rfl rfl (by decide) | exact evBuilt (St.bas (by assumption)) rfl rfl (by decide) rfl rfl rfl rfl (by decide)))))
  case c => rfl
  · intro e g₂ h₂ D₂ s₂
    refine sReturnD D₂ eInt fun v g₅ h₆ D₅ sb' p' => ⟨v, g₅, rfl, D₅.toRet.gr, ?_⟩
    unfold scost; rw [if_pos e]; exact p'
  intro e g₂ h₂ D₂ s₂
  refine' sIf D₂ (bEqS (y := Txt.lower y) (x := Txt.lower x) ?a ?b ?c) ?_ ?_
  case a => exact eLower (by (repeat' (first | with_reducible exact eInt | ((with_reducible refine' eLoc (by assumption) ?_ ?_ ?_ ?_ ?_) <;> first | rfl | decide) | exact eGlob (St.bas (by assumption)) rfl (fun _ => .int _ _) rfl rfl rfl rfl | with_reducible refine' eMod ?_ ?_ ?_ | with_reducible refine' eDiv ?_ ?_ ?_ ?_ | with_reducible refine' eAdd ?_ ?_ | with_reducible refine' eNeg ?_ | with_reducible refine' eInv ?_ | with_reducible refine' bLt ?_ ?_ ?_ | with_reducible refine' bGt ?_ ?_ ?_ | with_reducible refine' bEq ?_ ?_ ?_ | with_reducible refine' eMin (Rm.hn (by assumption)) ?_ ?_ ?_ ⟨_, _, rfl⟩ | with_reducible exact aNil | with_reducible refine' aCons ?_ ?_ ?_ | ((with_reducible show _ ≠ (0 : Int)); first | decide | (first | lia | omega)) | ((with_reducible show Builtin.divisionGoesByPylong _ _ = false); first | exact PyProof.noPylong_of_log2 (by decide +kernel) | exact PyProof.noPylong_small (by (first | lia | omega))) | ((with_reducible show behindInMarks _ _ = false); rfl) | ((with_reducible show starEach _ _ = _); rfl) | ((with_reducible show List.any _ _ = _); rfl) | ((with_reducible show Ev _ _ (eval (Expr.Name _ _) _) _ _ _); (first | exact evGlob (St.bas (by assumption)) rfl rfl rfl rfl (by decide) | exact evBuilt (St.bas (by assumption)) rfl rfl (by decide) rfl rfl rfl rfl (by decide)))))) hx rfl rfl
  case b => exact eLower (by (repeat' (first | with_reducible exact eInt | ((with_reducible refine' eLoc (by assumption) ?_ ?_ ?_ ?_ ?_) <;> first | rfl | decide) | exact eGlob (St.bas (by assumption)) rfl (fun _ => .int _ _) rfl rfl rfl rfl | with_reducible refine' eMod ?_ ?_ ?_ | with_reducible refine' eDiv ?_ ?_ ?_ ?_ | with_reducible refine' eAdd ?_ ?_ | with_reducible refine' eNeg ?_ | with_reducible refine' eInv ?_ | with_reducible refine' bLt ?_ ?_ ?_ | with_reducible refine' bGt ?_ ?_ ?_ | with_reducible refine' bEq ?_ ?_ ?_ | with_reducible refine' eMin (Rm.hn (by assumption)) ?_ ?_ ?_ ⟨_, _, rfl⟩ | with_reducible exact aNil | with_reducible refine' aCons ?_ ?_ ?_ | ((with_reducible show _ ≠ (0 : Int)); first | decide | (first | lia | omega)) | ((with_reducible show Builtin.divisionGoesByPylong _ _ = false); first | exact PyProof.noPylong_of_log2 (by decide +kernel) | exact PyProof.noPylong_small (by (first | lia | omega))) | ((with_reducible show behindInMarks _ _ = false); rfl) | ((with_reducible show starEach _ _ = _); rfl) | ((with_reducible show List.any _ _ = _); rfl) | ((with_reducible show Ev _ _ (eval (Expr.Name _ _) _) _ _ _); (first | exact evGlob (St.bas (by assumption)) rfl rfl rfl rfl (by decide) | exact evBuilt (St.bas (by assumption)) rfl rfl (by decide) rfl rfl rfl rfl (by decide)))))) hy rfl rfl
  case c => rfl
  · intro e' g₂ h₂ D₃ s₃
    refine' sReturnD (d := .int 1) D₃ ?a fun v g₅ h₆ D₅ sb' p' => ⟨v, g₅, rfl, D₅.toRet.gr, ?_⟩
    case a => (repeat' (first | with_reducible exact eInt | ((with_reducible refine' eLoc (by assumption) ?_ ?_ ?_ ?_ ?_) <;> first | rfl | decide) | exact eGlob (St.bas (by assumption)) rfl (fun _ => .int _ _) rfl rfl rfl rfl | with_reducible refine' eMod ?_ ?_ ?_ | with_reducible refine' eDiv ?_ ?_ ?_ ?_ | with_reducible refine' eAdd ?_ ?_ | with_reducible refine' eNeg ?_ | with_reducible refine' eInv ?_ | with_reducible refine' bLt ?_ ?_ ?_ | with_reducible refine' bGt ?_ ?_ ?_ | with_reducible refine' bEq ?_ ?_ ?_ | with_reducible refine' eMin (Rm.hn (by assumption)) ?_ ?_ ?_ ⟨_, _, rfl⟩ | with_reducible exact aNil | with_reducible refine' aCons ?_ ?_ ?_ | ((with_reducible show _ ≠ (0 : Int)); first | decide | (first | lia | omega)) | ((with_reducible show Builtin.divisionGoesByPylong _ _ = false); first | exact PyProof.noPylong_of_log2 (by decide +kernel) | exact PyProof.noPylong_small (by (first | lia | omega))) | ((with_reducible show behindInMarks _ _ = false); rfl) | ((with_reducible show starEach _ _ = _); rfl) | ((with_reducible show List.any _ _ = _); rfl) | ((with_reducible show Ev _ _ (eval (Expr.Name _ _) _) _ _ _); (first | exact evGlob (St.bas (by assumption)) rfl rfl rfl rfl (by decide) | exact evBuilt (St.bas (by assumption)) rfl rfl (by decide) rfl rfl rfl rfl (by decide)))))
    unfold scost; rw [if_neg (by simp [e]), if_pos e']; exact p'
  · intro e' g₂ h₂ D₃ s₃
    refine' sReturnD (d := .int 2) D₃ ?a fun v g₅ h₆ D₅ sb' p' => ⟨v, g₅, rfl, D₅.toRet.gr, ?_⟩
    case a => (repeat' (first | with_reducible exact eInt | ((with_reducible refine' eLoc (by assumption) ?_ ?_ ?_ ?_ ?_) <;> first | rfl | decide) | exact eGlob (St.bas (by assumption)) rfl (fun _ => .int _ _) rfl rfl rfl rfl | with_reducible refine' eMod ?_ ?_ ?_ | with_reducible refine' eDiv ?_ ?_ ?_ ?_ | with_reducible refine' eAdd ?_ ?_ | with_reducible refine' eNeg ?_ | with_reducible refine' eInv ?_ | with_reducible refine' bLt ?_ ?_ ?_ | with_reducible refine' bGt ?_ ?_ ?_ | with_reducible refine' bEq ?_ ?_ ?_ | with_reducible refine' eMin (Rm.hn (by assumption)) ?_ ?_ ?_ ⟨_, _, rfl⟩ | with_reducible exact aNil | with_reducible refine' aCons ?_ ?_ ?_ | ((with_reducible show _ ≠ (0 : Int)); first | decide | (first | lia | omega)) | ((with_reducible show Builtin.divisionGoesByPylong _ _ = false); first | exact PyProof.noPylong_of_log2 (by decide +kernel) | exact PyProof.noPylong_small (by (first | lia | omega))) | ((with_reducible show behindInMarks _ _ = false); rfl) | ((with_reducible show starEach _ _ = _); rfl) | ((with_reducible show List.any _ _ = _); rfl) | ((with_reducible show Ev _ _ (eval (Expr.Name _ _) _) _ _ _); (first | exact evGlob (St.bas (by assumption)) rfl rfl rfl rfl (by decide) | exact evBuilt (St.bas (by assumption)) rfl rfl (by decide) rfl rfl rfl rfl (by decide)))))
    unfold scost; rw [if_neg (by simp [e]), if_neg (by simp [e'])]; exact p'
end
noncomputable def sg (x : Str) (i : Nat) : Str := ⟨#[x.cps.toList.getD i 0]⟩
noncomputable def gain (x y : Str) : Int := if (x == y) = true then 4 else 2 + (if (Txt.lower x == Txt.lower y) = true then 1 else 0)
noncomputable def nextRow (gn : Nat → Int) (saved : List Int) : Nat → List Int
  | 0 => [0]
  | j + 1 => nextRow gn saved j ++ [max (max ((nextRow gn saved j).getD j 0) (saved.getD (j + 1) 0)) (saved.getD j 0 + gn j)]
theorem nextRow_len (gn : Nat → Int) (saved : List Int) (j : Nat) : (nextRow gn saved j).length = j + 1 := by
  induction j with
  | zero => rfl
  | succ j ih => rw [nextRow, List.length_append, ih]; rfl
noncomputable def apartRow (x y : Str) : Nat → List Int
  | 0 => List.replicate (y.length + 1) 0
  | i + 1 => nextRow (fun j => gain (sg x i) (sg y j)) (apartRow x y i) y.length
theorem apartRow_len (x y : Str) (i : Nat) : (apartRow x y i).length = y.length + 1 := by
  cases i with
  | zero => simp [apartRow]
  | succ i => exact nextRow_len ..
noncomputable def apart (x y : Str) : Int := 2 * ((x.length : Int) + y.length) - (apartRow x y x.length).getD y.length 0
noncomputable def Low (x : Str) : Prop := x.length ≤ 100 ∧ ∀ i, Builtin.Str.tooLong (Txt.lower (sg x i)).length = false
theorem ints_at {ns : List Int} {k : Nat} (h : k < ns.length) : (ns.map Dt.int)[k]? = some (.int (ns.getD k 0)) := by
  rw [List.getElem?_map, List.getElem?_eq_getElem h, List.getD_eq_getElem?_getD, List.getElem?_eq_getElem h]; rfl
section
variable {c : GC}
theorem apart_spec {A : Around} {g : FB} {h : Heap} {v w : Value} {x y : Str} (R : Rm A 1 103) (P : Pre c g [] h) (hv : Den g v (.str x)) (hw : Den g w (.str y)) (hx : Low x) (hy : Low y) :
    Cd c A (.call (.ref 152) ⟨[v, w], []⟩) (fun r h' => ∃ v g', r = .ok (.ret v) ∧ Gr g h g' h' ∧ Den g' v (.int (apart x y))) h := by
  refine enterD (dd := 0) (uu := 100) (binds := [("first", v), ("second", w)]) P rfl rfl R (fun s hs => .of_eq rfl) (locs rfl) (by decide) rfl rfl rfl (lookup2 hv hw) fun L h₁ D F R' => ?_
  have hxl := hx.1
  have hyl := hy.1
  refine' sAssignN (ds := (apartRow x y 0).map .int) D F ?a rfl rfl ?_
  case a =>
    have : (apartRow x y 0).map Dt.int = (List.replicate ((y.length : Int) + 1).toNat [Dt.int 0]).flatten := by
      rw [show ((y.length : Int) + 1).toNat = y.length + 1 by (first | lia | omega), apartRow]
      simp
    rw [this]
    refine' nMul (lN D.gr (eList (aCons eInt aNil rfl) (by decide))) (eAdd (eLenS ?n (by (repeat' (first | with_reducible exact eInt | ((with_reducible refine' eLoc (by assumption) ?_ ?_ ?_ ?_ ?_) <;> first | rfl | decide) | exact eGlob (St.bas (by assumption)) rfl (fun _ => .int _ _) rfl rfl rfl rfl | with_reducible refine' eMod ?_ ?_ ?_ | with_reducible refine' eDiv ?_ ?_ ?_ ?_ | with_reducible refine' eAdd ?_ ?_ | with_reducible refine' eNeg ?_ | with_reducible refine' eInv ?_ | with_reducible refine' bLt ?_ ?_ ?_ | with_reducible refine' bGt ?_ ?_ ?_ | with_reducible refine' bEq ?_ ?_ ?_ | with_reducible refine' eMin (Rm.hn (by assumption)) ?_ ?_ ?_ ⟨_, _, rfl⟩ | with_reducible exact aNil | with_reducible refine' aCons ?_ ?_ ?_ | ((with_reducible show _ ≠ (0 : Int)); first | decide | (first | lia | omega)) | ((with_reducible show Builtin.divisionGoesByPylong _ _ = false); first | exact PyProof.noPylong_of_log2 (by decide +kernel) | exact PyProof.noPylong_small (by (first | lia | omega))) | ((with_reducible show behindInMarks _ _ = false); rfl) | ((with_reducible show starEach _ _ = _); rfl) | ((with_reducible show List.any _ _ = _); rfl) | ((with_reducible show Ev _ _ (eval (Expr.Name _ _) _) _ _ _); (first | exact evGlob (St.bas (by assumption)) rfl rfl rfl rfl (by decide) | exact evBuilt (St.bas (by assumption)) rfl rfl (by decide) rfl rfl rfl rfl (by decide)))))) rfl (by (first | lia | omega))) eInt) (by (first | lia | omega)) (by (first | lia | omega)) ?_
    case n => (first | exact evGlob (St.bas (by assumption)) rfl rfl rfl rfl (by decide) | exact evBuilt (St.bas (by assumption)) rfl rfl (by decide) rfl rfl rfl rfl (by decide))
    simp only [List.length_cons, List.length_nil]; (first | lia | omega)
  intro aS g₂ h₂ D₂ hna s₂
  refine sForS (srcStr D₂ R'.hn (eLoc D₂ rfl rfl rfl rfl (by decide)) fun _ _ => rfl) (fun _ => rfl)
    (fun i _ own loc => ∃ a, own = [(a, .lst ((apartRow x y i).map .int))] ∧ loc = ([("saved", .ref a), ("second", .str y), ("first", .str x)] : Loc)) (fun _ _ => ⟨aS, rfl, rfl⟩) ?turn ?fin
  case turn =>
    rintro i g₃ g₄ own loc h₄ u pre Qt hi ⟨a, rfl, rfl⟩ s₃ s₄ D₄ du kN _
    refine Wp_asgL D₄ du F rfl fun h₅ D₅ => ?_
    refine' sAssignN (ds := [.int 0]) D₅ F (eList (aCons eInt aNil rfl) (by decide)) rfl rfl ?_
    intro b g₅ h₆ D₆ hnb s₅
    have D₆ := D₆.mid
    refine sForS (own := pre ++ [(b, .lst [.int 0]), (a, .lst ((apartRow x y i).map .int))]) (srcEnumS D₆ R'.hn (by (first | exact evGlob (St.bas (by assumption)) rfl rfl rfl rfl (by decide) | exact evBuilt (St.bas (by assumption)) rfl rfl (by decide) rfl rfl rfl rfl (by decide))) (eLoc D₆ rfl rfl rfl rfl (by decide)) rfl) (fun _ => rfl)
      (fun j _ own loc => own = pre ++ [(b, .lst ((nextRow (fun j => gain (sg x i) (sg y j)) (apartRow x y i) j).map .int)), (a, .lst ((apartRow x y i).map .int))] ∧ loc = ([("fresh", .ref b), ("one", sign x i), ("saved", .ref a), ("second", .str y), ("first", .str x)] : Loc)) (fun _ _ => ⟨rfl, rfl⟩) ?turn2 ?fin2
    case turn2 =>
      rintro j g₆ g₇ own loc h₇ u pre₂ Qt' hj ⟨rfl, rfl⟩ s₆ s₇ D₇ du kN' _
      refine Wp_asgTup2 D₇ R'.hn du F rfl rfl fun h₈ D₈ => ?_
      refine' sAssign (d := .int (gain (sg x i) (sg y j))) D₈ F ?v rfl rfl ?_
      case v =>
        refine' eIf (bEqS (x := sg x i) (y := sg y j) ?ga ?gb ?gc) ?gd ?ge
        case ga => exact eLoc D₈ rfl rfl rfl rfl (by decide)
        case gb => exact eLoc D₈ rfl rfl rfl rfl (by decide)
        case gc => rfl
        case gd => intro e; unfold gain; rw [if_pos e]; exact eInt
        case ge =>
          intro e; unfold gain; rw [if_neg (by simp [e])]
          refine eAdd eInt ?_
          refine' eIntB ?n ?b rfl
          case n => (first | exact evGlob (St.bas (by assumption)) rfl rfl rfl rfl (by decide) | exact evBuilt (St.bas (by assumption)) rfl rfl (by decide) rfl rfl rfl rfl (by decide))
          case b =>
            refine eEqS (y := Txt.lower (sg x i)) (z := Txt.lower (sg y j)) ?_ ?_ rfl
            · exact eLower (eLoc D₈ rfl rfl rfl rfl (by decide)) (hx.2 i) rfl rfl
            · exact eLower (eLoc D₈ rfl rfl rfl rfl (by decide)) (hy.2 j) rfl rfl
      intro g₈ h₉ D₉ s₈
      have la := apartRow_len x y i
      have lb := nextRow_len (fun j => gain (sg x i) (sg y j)) (apartRow x y i) j
      have hj : j < y.length := hj
      refine' sAppend (d := .int _) D₉ (eLoc D₉ rfl rfl rfl rfl (by decide)) ?v (Up.app (Up.app .head)) ?sz rfl rfl rfl rfl rfl ?_
      case v =>
        refine' eMax3 R'.hn ?wa (aCons ?wb (aCons ?wc (aCons ?wd aNil ?we) ?wf) ?wg) ?wh ?wi
        case wa => (first | exact evGlob (St.bas (by assumption)) rfl rfl rfl rfl (by decide) | exact evBuilt (St.bas (by assumption)) rfl rfl (by decide) rfl rfl rfl rfl (by decide))
        case wb => exact eIdx (lR (by ((with_reducible refine' eLoc (by assumption) ?_ ?_ ?_ ?_ ?_) <;> first | rfl | decide)) (D₉.lstAt (by (repeat' (first | exact List.Mem.head _ | refine' List.mem_append_right _ ?_ | refine' List.Mem.tail _ ?_))))) (eLoc D₉ rfl rfl rfl rfl (by decide)) (by (first | lia | omega)) (ints_at (by (first | decide | (first | lia | omega) | (simp only [List.length_map, List.length_append, List.length_cons, List.length_nil, sizeLine_eq] at *; (first | lia | omega))))) (by (first | decide | (first | lia | omega) | (simp only [List.length_map, List.length_append, List.length_cons, List.length_nil, sizeLine_eq] at *; (first | lia | omega)))) fun _ _ => rfl
        case wc => exact eIdx (lR (by ((with_reducible refine' eLoc (by assumption) ?_ ?_ ?_ ?_ ?_) <;> first | rfl | decide)) (D₉.lstAt (by (repeat' (first | exact List.Mem.head _ | refine' List.mem_append_right _ ?_ | refine' List.Mem.tail _ ?_))))) (eAdd (eLoc D₉ rfl rfl rfl rfl (by decide)) eInt) (by (first | lia | omega)) (ints_at (by (first | decide | (first | lia | omega) | (simp only [List.length_map, List.length_append, List.length_cons, List.length_nil, sizeLine_eq] at *; (first | lia | omega))))) (by (first | decide | (first | lia | omega) | (simp only [List.length_map, List.length_append, List.length_cons, List.length_nil, sizeLine_eq] at *; (first | lia | omega)))) fun _ _ => rfl
        case wd => exact eAdd (eIdx (lR (by ((with_reducible refine' eLoc (by assumption) ?_ ?_ ?_ ?_ ?_) <;> first | rfl | decide)) (D₉.lstAt (by (repeat' (first | exact List.Mem.head _ | refine' List.mem_append_right _ ?_ | refine' List.Mem.tail _ ?_))))) (eLoc D₉ rfl rfl rfl rfl (by decide)) (by (first | lia | omega)) (ints_at (by (first | decide | (first | lia | omega) | (simp only [List.length_map, List.length_append, List.length_cons, List.length_nil, sizeLine_eq] at *; (first | lia | omega))))) (by (first | decide | (first | lia | omega) | (simp only [List.length_map, List.length_append, List.length_cons, List.length_nil, sizeLine_eq] at *; (first | lia | omega)))) fun _ _ => rfl) (eLoc D₉ rfl rfl rfl rfl (by decide))
        case we => rfl
        case wf => rfl
        case wg => rfl
        case wh => rfl
        case wi => exact ⟨_, _, rfl⟩
      case sz => simp only [List.length_map, sizeLine_eq]; (first | lia | omega)
      intro g₉ h₁₀ D₁₀ s₉
      refine sNil (kN' g₉ _ _ _ ⟨?_, rfl⟩ (s₈.trans s₉) (D₁₀.weakL ⟨rfl, rfl, rfl, rfl, rfl, trivial⟩))
      rw [nextRow, List.map_append]; rfl
    case fin2 =>
      rintro g₆ own loc h₇ ⟨rfl, rfl⟩ s₆ D₇
      refine sAssign D₇ F (eLoc D₇ rfl rfl rfl rfl (by decide)) rfl rfl fun g₇ h₈ D₈ s₇ => ?_
      refine sNil (kN g₇ _ _ _ ⟨b, rfl, rfl⟩ (s₅.trans (s₆.trans s₇)) ((D₈.let_ (rest := [(b, _)]) (.skip (.take .all))).weakL ?_))
      exact ⟨rfl, rfl, rfl, trivial⟩
  case fin =>
    rintro g₃ own loc h₄ ⟨a, rfl, rfl⟩ s₃ D₄
    have la := apartRow_len x y x.cps.size
    refine' sReturnD (d := .int (apart x y)) D₄ ?e fun v g₅ h₆ D₅ sb' p' => ⟨v, g₅, rfl, (D₅.sub (own' := []) (fun _ h => nomatch h) .nil).toRet.gr, p'⟩
    refine' eSub (eMul eInt (eAdd (eLenS ?n (by (repeat' (first | with_reducible exact eInt | ((with_reducible refine' eLoc (by assumption) ?_ ?_ ?_ ?_ ?_) <;> first | rfl | decide) | exact eGlob (St.bas (by assumption)) rfl (fun _ => .int _ _) rfl rfl rfl rfl | with_reducible refine' eMod ?_ ?_ ?_ | with_reducible refine' eDiv ?_ ?_ ?_ ?_ | with_reducible refine' eAdd ?_ ?_ | with_reducible refine' eNeg ?_ | with_reducible refine' eInv ?_ | with_reducible refine' bLt ?_ ?_ ?_ | with_reducible refine' bGt ?_ ?_ ?_ | with_reducible refine' bEq ?_ ?_ ?_ | with_reducible refine' eMin (Rm.hn (by assumption)) ?_ ?_ ?_ ⟨_, _, rfl⟩ | with_reducible exact aNil | with_reducible refine' aCons ?_ ?_ ?_ | ((with_reducible show _ ≠ (0 : Int)); first | decide | (first | lia | omega)) | ((with_reducible show Builtin.divisionGoesByPylong _ _ = false); first | exact PyProof.noPylong_of_log2 (by decide +kernel) | exact PyProof.noPylong_small (by (first | lia | omega))) | ((with_reducible show behindInMarks _ _ = false); rfl) | ((with_reducible show starEach _ _ = _); rfl) | ((with_reducible show List.any _ _ = _); rfl) | ((with_reducible show Ev _ _ (eval (Expr.Name _ _) _) _ _ _); (first | exact evGlob (St.bas (by assumption)) rfl rfl rfl rfl (by decide) | exact evBuilt (St.bas (by assumption)) rfl rfl (by decide) rfl rfl rfl rfl (by decide)))))) rfl (by (first | lia | omega))) (eLenS ?n' (by (repeat' (first | with_reducible exact eInt | ((with_reducible refine' eLoc (by assumption) ?_ ?_ ?_ ?_ ?_) <;> first | rfl | decide) | exact eGlob (St.bas (by assumption)) rfl (fun _ => .int _ _) rfl rfl rfl rfl | with_reducible refine' eMod ?_ ?_ ?_ | with_reducible refine' eDiv ?_ ?_ ?_ ?_ | with_reducible refine' eAdd ?_ ?_ | with_reducible refine' eNeg ?_ | with_reducible refine' eInv ?_ | with_reducible refine' bLt ?_ ?_ ?_ | with_reducible refine' bGt ?_ ?_ ?_ | with_reducible refine' bEq ?_ ?_ ?_ | with_reducible refine' eMin (Rm.hn (by assumption)) ?_ ?_ ?_ ⟨_, _, rfl⟩ | with_reducible exact aNil | with_reducible refine' aCons ?_ ?_ ?_ | ((with_reducible show _ ≠ (0 : Int)); first | decide | (first | lia | omega)) | ((with_reducible show Builtin.divisionGoesByPylong _ _ = false); first | exact PyProof.noPylong_of_log2 (by decide +kernel) | exact PyProof.noPylong_small (by (first | lia | omega))) | ((with_reducible show behindInMarks _ _ = false); rfl) | ((with_reducible show starEach _ _ = _); rfl) | ((with_reducible show List.any _ _ = _); rfl) | ((with_reducible show Ev _ _ (eval (Expr.Name _ _) _) _ _ _); (first | exact evGlob (St.bas (by assumption)) rfl rfl rfl rfl (by decide) | exact evBuilt (St.bas (by assumption)) rfl rfl (by decide) rfl rfl rfl rfl (by decide)))))) rfl (by (first | lia | omega)))) ?m) (eIdxN (lR (eLoc D₄ rfl rfl rfl rfl (by decide)) (D₄.lstAt (.head _))) (eNeg eInt) ?a ?b ?c ?d fun _ _ => rfl)
    case n => (first | exact evGlob (St.bas (by assumption)) rfl rfl rfl rfl (by decide) | exact evBuilt (St.bas (by assumption)) rfl rfl (by decide) rfl rfl rfl rfl (by decide))
    case n' => (first | exact evGlob (St.bas (by assumption)) rfl rfl rfl rfl (by decide) | exact evBuilt (St.bas (by assumption)) rfl rfl (by decide) rfl rfl rfl rfl (by decide))
    case m => mul_fits
    case a => decide
    case b => simp only [List.length_map]; (first | lia | omega)
    case c =>
      rw [List.length_map, show ((-1 : Int) + ((apartRow x y x.cps.size).length : Int)).toNat = y.length from by (first | lia | omega)]
      exact ints_at (by (first | lia | omega))
    case d => simp only [List.length_map]; (first | lia | omega)
end
noncomputable def cpl : List Nat → List Nat → Nat
  | x :: l, y :: m => if x = y then cpl l m + 1 else 0
  | _, _ => 0
theorem cpl_le : ∀ l m, cpl l m ≤ l.length ∧ cpl l m ≤ m.length
  | x :: l, y :: m => by
    unfold cpl
    have := cpl_le l m
    split <;> simp <;> (first | lia | omega)
  | [], _ => by simp [cpl]
  | _ :: _, [] => by simp [cpl]
theorem cpl_step : ∀ l m k, k ≤ cpl l m → (k < cpl l m ↔ k < l.length ∧ k < m.length ∧ l.getD k 0 = m.getD k 0)
  | x :: l, y :: m, k => by
    unfold cpl
    by_cases h : x = y
    · rw [if_pos h]
      cases k with
      | zero => intro _; simp [h]
      | succ k =>
        intro hk
        have := cpl_step l m k (by (first | lia | omega))
        simp only [List.length_cons, List.getD_cons_succ]
        (first | lia | omega)
    · rw [if_neg h]
      intro hk
      have : k = 0 := by (first | lia | omega)
      subst this
      simp [h]
  | [], m, k => by simp [cpl]
  | _ :: _, [], k => by simp [cpl]
noncomputable def front (l m : List Nat) : List Nat × List Nat := (l.drop (cpl l m), m.drop (cpl l m))
noncomputable def back (l m : List Nat) : List Nat × List Nat := (l.take (l.length - cpl l.reverse m.reverse), m.take (m.length - cpl l.reverse m.reverse))
noncomputable def trim (l m : List Nat) : List Nat × List Nat := back (front l m).1 (front l m).2
structure LS where
  row : List Int
  res : Int
  dist : Int
  min : Int
noncomputable def lin (cst : Nat → Int) (row : List Int) (r0 : Int) : Nat → LS
  | 0 => ⟨row, r0, r0, 9223372036854775807⟩
  | i + 1 =>
    let s := lin cst row r0 i
    let d := s.row.getD i 0
    let z := Min.min (Min.min s.res d + 2) (s.dist + cst i)
    ⟨s.row.set i z, z, d, if z < s.min then z else s.min⟩
noncomputable def row0 (n : Nat) : List Int := (List.range n).map fun i : Nat => 2 + (i : Int) * 2
noncomputable def lrow (cst : Nat → Nat → Int) (n : Nat) : Nat → LS
  | 0 => ⟨row0 n, 0, 0, 0⟩
  | j + 1 => lin (cst j) (lrow cst n j).row (j * 2) n
theorem lin_len (cst : Nat → Int) (row : List Int) (r0 : Int) (i : Nat) : (lin cst row r0 i).row.length = row.length := by
  induction i with
  | zero => rfl
  | succ i ih => simp [lin, ih]
theorem lrow_len (cst : Nat → Nat → Int) (n j : Nat) : (lrow cst n j).row.length = n := by
  induction j with
  | zero => simp [lrow, row0]
  | succ j ih => rw [lrow, lin_len, ih]
noncomputable def lcost (a b : List Nat) (j i : Nat) : Int := scost (S [b.getD j 0]) (S [a.getD i 0])
structure LevOk (a b : List Nat) (D : Int) : Prop where
  one : 2 * ((b.length : Int) - a.length) ≤ D
  mins : ∀ j, j < b.length → (lrow (lcost a b) a.length (j + 1)).min ≤ D
  res : (lrow (lcost a b) a.length b.length).res = D
structure LevIs (l m : List Nat) (D : Int) : Prop where
  same : l = m → D = 0
  short : l ≠ m → (trim l m).1 = [] ∨ (trim l m).2 = [] → 2 * (((trim l m).1.length : Int) + (trim l m).2.length) = D
  up : l ≠ m → (trim l m).1 ≠ [] → (trim l m).2 ≠ [] → (trim l m).1.length ≤ (trim l m).2.length → LevOk (trim l m).1 (trim l m).2 D
  down : l ≠ m → (trim l m).1 ≠ [] → (trim l m).2 ≠ [] → (trim l m).2.length < (trim l m).1.length → LevOk (trim l m).2 (trim l m).1 D
noncomputable def Lows (l : List Nat) : Prop := l.length ≤ 40 ∧ ∀ p ∈ l, Builtin.Str.tooLong (Txt.lower (S [p])).length = false
theorem Lows.at {l : List Nat} (h : Lows l) {i : Nat} (hi : i < l.length) : Builtin.Str.tooLong (Txt.lower (S [l.getD i 0])).length = false := by
  refine h.2 _ ?_
  rw [List.getD_eq_getElem?_getD, List.getElem?_eq_getElem hi]
  exact List.getElem_mem hi
theorem test3 {n m k x y : Nat} {b : Bool} (h : b = true ↔ x = y) : (((n - k) != 0) && (((m - k) != 0) && (b && true))) = true ↔ k < n ∧ k < m ∧ x = y := by
  rw [Bool.and_eq_true, Bool.and_eq_true, Bool.and_true, h, bne_iff_ne, bne_iff_ne, Nat.sub_ne_zero_iff_lt, Nat.sub_ne_zero_iff_lt]
theorem seqIndex_pos {i : Nat} {n : Nat} (h : i < n) : seqIndex? (i : Int) n = some i := by
  unfold seqIndex?
  rw [if_neg (Int.not_lt.mpr (Int.natCast_nonneg i)), if_pos (by rw [Bool.and_eq_true, decide_eq_true_eq, decide_eq_true_eq]; exact ⟨Int.natCast_nonneg i, Int.ofNat_lt.mpr h⟩)]; rfl
theorem str_at {l : List Nat} {i : Nat} (h : i < l.length) : (seqIndex? (i : Int) (S l).length).bind ((S l).cps[·]?) = some (l.getD i 0) := by
  rw [S_len, seqIndex_pos h]
  show l.toArray[i]? = _
  rw [List.getElem?_toArray, List.getElem?_eq_getElem h, List.getD_eq_getElem?_getD, List.getElem?_eq_getElem h]; rfl
theorem str_atN {l : List Nat} {k : Nat} (h : k < l.length) : (seqIndex? (-(k : Int) - 1) (S l).length).bind ((S l).cps[·]?) = some (l.reverse.getD k 0) := by
  rw [S_len]
  have : seqIndex? (-(k : Int) - 1) l.length = some (l.length - 1 - k) := by
    have e : (-(k : Int) - 1) + (l.length : Int) = ((l.length - 1 - k : Nat) : Int) := by (first | lia | omega)
    unfold seqIndex?
    rw [if_pos (show -(k : Int) - 1 < 0 by (first | lia | omega)), e]
    have z := seqIndex_pos (i := l.length - 1 - k) (n := l.length) (by (first | lia | omega))
    unfold seqIndex? at z
    rw [if_neg (Int.not_lt.mpr (Int.natCast_nonneg _))] at z
    exact z
  rw [this]
  show l.toArray[l.length - 1 - k]? = _
  rw [List.getElem?_toArray, List.getD_eq_getElem?_getD, List.getElem?_reverse h, List.getElem?_eq_getElem (by (first | lia | omega))]; rfl
section
variable {c : GC}
theorem lev_spec {A : Around} {g : FB} {h : Heap} {v w u : Value} {l m : List Nat} {mc D : Int} (R : Rm A 2 106) (P : Pre c g [] h) (hv : Den g v (.str (S l))) (hw : Den g w (.str (S m))) (hu : Den g u (.int mc))
    (hl : Lows l) (hm : Lows m) (ok : LevIs l m D) (hmc : D - 1 ≤ mc) :
    Cd c A (.call (.ref 107) ⟨[v, w, u], []⟩) (fun r h' => ∃ v g', r = .ok (.ret v) ∧ Gr g h g' h' ∧ Den g' v (.int D)) h := by
  refine enterD (dd := 1) (uu := 103) (binds := [("a", v), ("b", w), ("max_cost", u)]) P rfl rfl R (fun s hs => .of_eq rfl) (locs rfl) (by decide) rfl rfl rfl (lookup3 hv hw hu) fun L h₁ D₀ F R' => ?_
  have hll := hl.1
  have hml := hm.1
  refine' sIf D₀ (bEqS (x := S l) (y := S m) ?ca1 ?ca2 ?ca3) ?_ ?_
  case ca1 => ((with_reducible refine' eLoc (by assumption) ?_ ?_ ?_ ?_ ?_) <;> first | rfl | decide)
  case ca2 => ((with_reducible refine' eLoc (by assumption) ?_ ?_ ?_ ?_ ?_) <;> first | rfl | decide)
  case ca3 => rfl
  · intro e g₂ h₂ D₂ s₂
    rw [S_inj] at e
    rw [ok.same (by simpa using e)]
    exact sReturnD D₂ eInt fun v g₅ h₆ D₅ sb' p' => ⟨v, g₅, rfl, D₅.toRet.gr, p'⟩
  intro e g₂ h₂ D₂ s₂
  rw [S_inj] at e
  have hne : l ≠ m := by simpa using e
  have cl := cpl_le l m
  refine sAssign D₂ F (eInt (i := 0)) rfl rfl <| let l_0 : Loc := _; fun g₃ h₃ (D₃ : St _ _ _ _ _ l_0 _) s₃ => ?_
  refine sWhile (fun n h' => ∃ k g', n + k = cpl l m ∧ St c ⟨g, h, []⟩ g' [] L [("pre", .int (k : Int)), ("b", .str (S m)), ("a", .str (S l)), ("max_cost", .int mc)] h') (cpl l m) ⟨0, g₃, rfl, D₃.weakL ⟨rfl, rfl, rfl, rfl, trivial⟩⟩ ?_
  rintro n h₄ ⟨k, g₄, hk, D₄⟩
  refine Ev.wp (P := fun _ _ v => v = decide (k < cpl l m)) ?_ D₄ ?_
  · refine Ev.imp (P := fun _ _ v => v = (((S (l.drop k)).length != 0) && (((S (m.drop k)).length != 0) && ((S [l.getD k 0] == S [m.getD k 0]) && true)))) ?_ fun v _ _ _ e => e.trans ?_
    · refine' bBool (bAndC (bStr (y := S (l.drop k)) ?cb1 ?cb2 rfl) fun e1 => bAndC (bStr (y := S (m.drop k)) ?cb3 ?cb4 rfl) fun e2 => bAndC (bEqS ?cb5 ?cb6 rfl) fun _ => bTrue0)
      case cb1 => rw [← cut_from, ← slice_S]; exact eSlcS (eLoc D₄ rfl rfl rfl rfl (by decide)) (pInt (eLoc D₄ rfl rfl rfl rfl (by decide))) pNone (by rw [S_len]; simp only [sizeLine_eq]; (first | lia | omega)) fun _ _ => ⟨_, rfl⟩
      case cb3 => rw [← cut_from, ← slice_S]; exact eSlcS (eLoc D₄ rfl rfl rfl rfl (by decide)) (pInt (eLoc D₄ rfl rfl rfl rfl (by decide))) pNone (by rw [S_len]; simp only [sizeLine_eq]; (first | lia | omega)) fun _ _ => ⟨_, rfl⟩
      case cb2 => rw [S_len, List.length_drop]; (first | lia | omega)
      case cb4 => rw [S_len, List.length_drop]; (first | lia | omega)
      all_goals (simp [S_len] at e1 e2)
      case cb5 => exact eIdxS (eLoc D₄ rfl rfl rfl rfl (by decide)) (eLoc D₄ rfl rfl rfl rfl (by decide)) (by simp; (first | lia | omega)) (str_at (by (first | lia | omega))) fun _ _ => rfl
      case cb6 => exact eIdxS (eLoc D₄ rfl rfl rfl rfl (by decide)) (eLoc D₄ rfl rfl rfl rfl (by decide)) (by simp; (first | lia | omega)) (str_at (by (first | lia | omega))) fun _ _ => rfl
    · have := cpl_step l m k (by (first | lia | omega))
      rw [S_inj, Bool.eq_iff_iff, decide_eq_true_eq, this, S_len, S_len, List.length_drop, List.length_drop]
      exact test3 (by simp)
  intro b g₅ h₅ D₅ G₅ e
  subst e
  by_cases hlt : k < cpl l m
  · rw [if_pos (by simpa using hlt)]
    refine sAugAdd D₅ F rfl rfl eInt <| let l_1 : Loc := _; fun g₆ h₆ (D₆ : St _ _ _ _ _ l_1 _) s₆ => sNil ⟨n - 1, by (first | lia | omega), k + 1, g₆, by (first | lia | omega), D₆.weakL ⟨?_, rfl, rfl, rfl, trivial⟩⟩
    rfl
  rw [if_neg (by simpa using hlt)]
  have hk : k = cpl l m := by (first | lia | omega)
  subst hk
  have fl : (front l m).1 = l.drop (cpl l m) := rfl
  have fm : (front l m).2 = m.drop (cpl l m) := rfl
  refine' sAssign (d := .str (S (front l m).1)) D₅ F ?cc1 rfl rfl fun g₆ h₆ D₆ s₆ => ?_
  case cc1 => rw [fl, ← cut_from, ← slice_S]; exact eSlcS (eLoc D₅ rfl rfl rfl rfl (by decide)) (pInt (eLoc D₅ rfl rfl rfl rfl (by decide))) pNone (by rw [S_len]; simp only [sizeLine_eq]; (first | lia | omega)) fun _ _ => ⟨_, rfl⟩
  refine' sAssign (d := .str (S (front l m).2)) D₆ F ?cc2 rfl rfl fun g₇ h₇ D₇ s₇ => ?_
  case cc2 => rw [fm, ← cut_from, ← slice_S]; exact eSlcS (eLoc D₆ rfl rfl rfl rfl (by decide)) (pInt (eLoc D₆ rfl rfl rfl rfl (by decide))) pNone (by rw [S_len]; simp only [sizeLine_eq]; (first | lia | omega)) fun _ _ => ⟨_, rfl⟩
  have lf : (front l m).1.length ≤ 40 := by rw [fl, List.length_drop]; (first | lia | omega)
  have mf : (front l m).2.length ≤ 40 := by rw [fm, List.length_drop]; (first | lia | omega)
  have lf' : ∀ p ∈ (front l m).1, p ∈ l := fun p hp => List.mem_of_mem_drop hp
  have mf' : ∀ p ∈ (front l m).2, p ∈ m := fun p hp => List.mem_of_mem_drop hp
  have et : trim l m = back (front l m).1 (front l m).2 := rfl
  generalize (front l m).1 = l₁ at *
  generalize (front l m).2 = m₁ at *
  clear fl fm
  have cl := cpl_le l₁.reverse m₁.reverse
  rw [List.length_reverse, List.length_reverse] at cl
  have ct : ∀ (z : List Nat) (k : Nat), cut z none (if (-(k : Int)) = 0 then none else some (-(k : Int))) = z.take (z.length - k) := by
    intro z k
    by_cases hk : k = 0
    · subst hk; rw [if_pos (by simp), cut_all]; simp
    · rw [if_neg (by (first | lia | omega)), cut_toN _ _ (by (first | lia | omega))]
  refine sAssign D₇ F (eInt (i := 0)) rfl rfl fun g₈ h₈ D₈ s₈ => ?_
  refine sWhile (fun n h' => ∃ k g', n + k = cpl l₁.reverse m₁.reverse ∧ St c ⟨g, h, []⟩ g' [] L [("post", .int (-(k : Int))), ("b", .str (S m₁)), ("a", .str (S l₁)), ("max_cost", .int mc)] h') (cpl l₁.reverse m₁.reverse) ⟨0, g₈, rfl, D₈.weakL ⟨rfl, rfl, rfl, rfl, trivial⟩⟩ ?_
  rintro n h₉ ⟨k, g₉, hk, D₉⟩
  refine Ev.wp (P := fun _ _ v => v = decide (k < cpl l₁.reverse m₁.reverse)) ?_ D₉ ?_
  · refine Ev.imp (P := fun _ _ v => v = (((S (l₁.take (l₁.length - k))).length != 0) && (((S (m₁.take (m₁.length - k))).length != 0) && ((S [l₁.reverse.getD k 0] == S [m₁.reverse.getD k 0]) && true)))) ?_ fun v _ _ _ e => e.trans ?_
    · refine' bBool (bAndC (bStr (y := S (l₁.take (l₁.length - k))) ?cd1 ?cd2 rfl) fun e1 => bAndC (bStr (y := S (m₁.take (m₁.length - k))) ?cd3 ?cd4 rfl) fun e2 => bAndC (bEqS ?cd5 ?cd6 rfl) fun _ => bTrue0)
      case cd1 => rw [← ct, ← slice_S]; exact eSlcS (eLoc D₉ rfl rfl rfl rfl (by decide)) pNone (pOrNone (eLoc D₉ rfl rfl rfl rfl (by decide))) (by rw [S_len]; simp only [sizeLine_eq]; (first | lia | omega)) fun _ _ => ⟨_, rfl⟩
      case cd3 => rw [← ct, ← slice_S]; exact eSlcS (eLoc D₉ rfl rfl rfl rfl (by decide)) pNone (pOrNone (eLoc D₉ rfl rfl rfl rfl (by decide))) (by rw [S_len]; simp only [sizeLine_eq]; (first | lia | omega)) fun _ _ => ⟨_, rfl⟩
      case cd2 => rw [S_len, List.length_take]; (first | lia | omega)
      case cd4 => rw [S_len, List.length_take]; (first | lia | omega)
      all_goals (rw [S_len, List.length_take] at e1 e2; simp at e1 e2)
      case cd5 => exact eIdxS (eLoc D₉ rfl rfl rfl rfl (by decide)) (eSub (eLoc D₉ rfl rfl rfl rfl (by decide)) eInt) (by simp; (first | lia | omega)) (str_atN (by (first | lia | omega))) fun _ _ => rfl
      case cd6 => exact eIdxS (eLoc D₉ rfl rfl rfl rfl (by decide)) (eSub (eLoc D₉ rfl rfl rfl rfl (by decide)) eInt) (by simp; (first | lia | omega)) (str_atN (by (first | lia | omega))) fun _ _ => rfl
    · have := cpl_step l₁.reverse m₁.reverse k (by (first | lia | omega))
      rw [S_inj, Bool.eq_iff_iff, decide_eq_true_eq, this, S_len, S_len, List.length_take, List.length_take, Nat.min_eq_left (Nat.sub_le _ _), Nat.min_eq_left (Nat.sub_le _ _), List.length_reverse, List.length_reverse]
      exact test3 (by simp)
  intro b g₁₀ h₁₀ D₁₀ G₁₀ e
  subst e
  by_cases hlt : k < cpl l₁.reverse m₁.reverse
  · rw [if_pos (by simpa using hlt)]
    refine sAugSub D₁₀ F rfl rfl eInt <| let l_5 : Loc := _; fun g₆ h₆ (D₆ : St _ _ _ _ _ l_5 _) s₆ => sNil ⟨n - 1, by (first | lia | omega), k + 1, g₆, by (first | lia | omega), D₆.weakL ⟨?_, rfl, rfl, rfl, trivial⟩⟩
    rw [show -((k + 1 : Nat) : Int) = -(k : Int) - 1 by (first | lia | omega)]; rfl
  rw [if_neg (by simpa using hlt)]
  have hk : k = cpl l₁.reverse m₁.reverse := by (first | lia | omega)
  subst hk
  have el : (trim l m).1 = l₁.take (l₁.length - cpl l₁.reverse m₁.reverse) := by rw [et]; rfl
  have em : (trim l m).2 = m₁.take (m₁.length - cpl l₁.reverse m₁.reverse) := by rw [et]; rfl
  refine' sAssign (d := .str (S (trim l m).1)) D₁₀ F ?ce1 rfl rfl fun g₁₁ h₁₁ D₁₁ s₁₁ => ?_
  case ce1 => rw [el, ← ct, ← slice_S]; exact eSlcS (eLoc D₁₀ rfl rfl rfl rfl (by decide)) pNone (pOrNone (eLoc D₁₀ rfl rfl rfl rfl (by decide))) (by rw [S_len]; simp only [sizeLine_eq]; (first | lia | omega)) fun _ _ => ⟨_, rfl⟩
  refine' sAssign (d := .str (S (trim l m).2)) D₁₁ F ?ce2 rfl rfl fun g₁₂ h₁₂ D₁₂ s₁₂ => ?_
  case ce2 => rw [em, ← ct, ← slice_S]; exact eSlcS (eLoc D₁₁ rfl rfl rfl rfl (by decide)) pNone (pOrNone (eLoc D₁₁ rfl rfl rfl rfl (by decide))) (by rw [S_len]; simp only [sizeLine_eq]; (first | lia | omega)) fun _ _ => ⟨_, rfl⟩
  have l2 : Lows (trim l m).1 := ⟨by rw [el, List.length_take]; (first | lia | omega), fun p hp => hl.2 p (lf' p (List.mem_of_mem_take (el ▸ hp)))⟩
  have m2 : Lows (trim l m).2 := ⟨by rw [em, List.length_take]; (first | lia | omega), fun p hp => hm.2 p (mf' p (List.mem_of_mem_take (em ▸ hp)))⟩
  have ok1 := ok.short hne
  have ok2 := ok.up hne
  have ok3 := ok.down hne
  clear el em et ok lf lf' mf mf' ct cl hlt hk
  generalize (trim l m).1 = a at *
  generalize (trim l m).2 = b at *
  have la := l2.1
  have lb := m2.1
  have z0 : ∀ z : List Nat, ((S z).length != 0) = !z.isEmpty := by intro z; rw [S_len]; cases z <;> rfl
  refine' sIf D₁₂ (b := a.isEmpty || (b.isEmpty || false)) (bBool (bOrC ?cf1 fun _ => bOrC ?cf2 fun _ => bFalse0)) ?_ ?_
  case cf1 =>
    refine (bNot (bStr (y := S a) (eLoc D₁₂ rfl rfl rfl rfl (by decide)) (by rw [S_len]; (first | lia | omega)) rfl)).imp fun v _ _ _ e => e.trans ?_
    rw [z0, Bool.not_not]
  case cf2 =>
    refine (bNot (bStr (y := S b) (eLoc D₁₂ rfl rfl rfl rfl (by decide)) (by rw [S_len]; (first | lia | omega)) rfl)).imp fun v _ _ _ e => e.trans ?_
    rw [z0, Bool.not_not]
  · intro e g₁₃ h₁₃ D₁₃ s₁₃
    have e' : a = [] ∨ b = [] := by simpa using e
    rw [← ok1 e']
    refine' sReturnD D₁₃ ?cg1 fun v g₅ h₆ D₅ sb' p' => ⟨v, g₅, rfl, D₅.toRet.gr, p'⟩
    case cg1 =>
      rw [← S_len a, ← S_len b]
      refine' eMul ?ch1 (eAdd (eLenS ?ch2 (eLoc D₁₃ rfl rfl rfl rfl (by decide)) rfl (by rw [S_len]; (first | lia | omega))) (eLenS ?ch3 (eLoc D₁₃ rfl rfl rfl rfl (by decide)) rfl (by rw [S_len]; (first | lia | omega)))) ?ch4
      case ch1 => (repeat' (first | with_reducible exact eInt | ((with_reducible refine' eLoc (by assumption) ?_ ?_ ?_ ?_ ?_) <;> first | rfl | decide) | exact eGlob (St.bas (by assumption)) rfl (fun _ => .int _ _) rfl rfl rfl rfl | with_reducible refine' eMod ?_ ?_ ?_ | with_reducible refine' eDiv ?_ ?_ ?_ ?_ | with_reducible refine' eAdd ?_ ?_ | with_reducible refine' eNeg ?_ | with_reducible refine' eInv ?_ | with_reducible refine' bLt ?_ ?_ ?_ | with_reducible refine' bGt ?_ ?_ ?_ | with_reducible refine' bEq ?_ ?_ ?_ | with_reducible refine' eMin (Rm.hn (by assumption)) ?_ ?_ ?_ ⟨_, _, rfl⟩ | with_reducible exact aNil | with_reducible refine' aCons ?_ ?_ ?_ | ((with_reducible show _ ≠ (0 : Int)); first | decide | (first | lia | omega)) | ((with_reducible show Builtin.divisionGoesByPylong _ _ = false); first | exact PyProof.noPylong_of_log2 (by decide +kernel) | exact PyProof.noPylong_small (by (first | lia | omega))) | ((with_reducible show behindInMarks _ _ = false); rfl) | ((with_reducible show starEach _ _ = _); rfl) | ((with_reducible show List.any _ _ = _); rfl) | ((with_reducible show Ev _ _ (eval (Expr.Name _ _) _) _ _ _); (first | exact evGlob (St.bas (by assumption)) rfl rfl rfl rfl (by decide) | exact evBuilt (St.bas (by assumption)) rfl rfl (by decide) rfl rfl rfl rfl (by decide)))))
      case ch2 => (first | exact evGlob (St.bas (by assumption)) rfl rfl rfl rfl (by decide) | exact evBuilt (St.bas (by assumption)) rfl rfl (by decide) rfl rfl rfl rfl (by decide))
      case ch3 => (first | exact evGlob (St.bas (by assumption)) rfl rfl rfl rfl (by decide) | exact evBuilt (St.bas (by assumption)) rfl rfl (by decide) rfl rfl rfl rfl (by decide))
      case ch4 => rw [S_len, S_len]; mul_fits
  intro e g₁₃ h₁₃ D₁₃ s₁₃
  have ea : a ≠ [] := by intro z; subst z; simp at e
  have eb : b ≠ [] := by intro z; subst z; simp at e
  refine' sIf D₁₃ (b := decide ((40 : Int) < (S a).length) || (decide ((40 : Int) < (S b).length) || false)) (bBool (bOrC (bGt (eLenS ?ci1 (eLoc D₁₃ rfl rfl rfl rfl (by decide)) rfl (by rw [S_len]; (first | lia | omega))) ?ci2 rfl) fun _ => bOrC (bGt (eLenS ?ci3 (eLoc D₁₃ rfl rfl rfl rfl (by decide)) rfl (by rw [S_len]; (first | lia | omega))) ?ci4 rfl) fun _ => bFalse0)) ?_ ?_
  case ci1 => (first | exact evGlob (St.bas (by assumption)) rfl rfl rfl rfl (by decide) | exact evBuilt (St.bas (by assumption)) rfl rfl (by decide) rfl rfl rfl rfl (by decide))
  case ci2 => (repeat' (first | with_reducible exact eInt | ((with_reducible refine' eLoc (by assumption) ?_ ?_ ?_ ?_ ?_) <;> first | rfl | decide) | exact eGlob (St.bas (by assumption)) rfl (fun _ => .int _ _) rfl rfl rfl rfl | with_reducible refine' eMod ?_ ?_ ?_ | with_reducible refine' eDiv ?_ ?_ ?_ ?_ | with_reducible refine' eAdd ?_ ?_ | with_reducible refine' eNeg ?_ | with_reducible refine' eInv ?_ | with_reducible refine' bLt ?_ ?_ ?_ | with_reducible refine' bGt ?_ ?_ ?_ | with_reducible refine' bEq ?_ ?_ ?_ | with_reducible refine' eMin (Rm.hn (by assumption)) ?_ ?_ ?_ ⟨_, _, rfl⟩ | with_reducible exact aNil | with_reducible refine' aCons ?_ ?_ ?_ | ((with_reducible show _ ≠ (0 : Int)); first | decide | (first | lia | omega)) | ((with_reducible show Builtin.divisionGoesByPylong _ _ = false); first | exact PyProof.noPylong_of_log2 (by decide +kernel) | exact PyProof.noPylong_small (by (first | lia | omega))) | ((with_reducible show behindInMarks _ _ = false); rfl) | ((with_reducible show starEach _ _ = _); rfl) | ((with_reducible show List.any _ _ = _); rfl) | ((with_reducible show Ev _ _ (eval (Expr.Name _ _) _) _ _ _); (first | exact evGlob (St.bas (by assumption)) rfl rfl rfl rfl (by decide) | exact evBuilt (St.bas (by assumption)) rfl rfl (by decide) rfl rfl rfl rfl (by decide)))))
  case ci3 => (first | exact evGlob (St.bas (by assumption)) rfl rfl rfl rfl (by decide) | exact evBuilt (St.bas (by assumption)) rfl rfl (by decide) rfl rfl rfl rfl (by decide))
  case ci4 => (repeat' (first | with_reducible exact eInt | ((with_reducible refine' eLoc (by assumption) ?_ ?_ ?_ ?_ ?_) <;> first | rfl | decide) | exact eGlob (St.bas (by assumption)) rfl (fun _ => .int _ _) rfl rfl rfl rfl | with_reducible refine' eMod ?_ ?_ ?_ | with_reducible refine' eDiv ?_ ?_ ?_ ?_ | with_reducible refine' eAdd ?_ ?_ | with_reducible refine' eNeg ?_ | with_reducible refine' eInv ?_ | with_reducible refine' bLt ?_ ?_ ?_ | with_reducible refine' bGt ?_ ?_ ?_ | with_reducible refine' bEq ?_ ?_ ?_ | with_reducible refine' eMin (Rm.hn (by assumption)) ?_ ?_ ?_ ⟨_, _, rfl⟩ | with_reducible exact aNil | with_reducible refine' aCons ?_ ?_ ?_ | ((with_reducible show _ ≠ (0 : Int)); first | decide | (first | lia | omega)) | ((with_reducible show Builtin.divisionGoesByPylong _ _ = false); first | exact PyProof.noPylong_of_log2 (by decide +kernel) | exact PyProof.noPylong_small (by (first | lia | omega))) | ((with_reducible show behindInMarks _ _ = false); rfl) | ((with_reducible show starEach _ _ = _); rfl) | ((with_reducible show List.any _ _ = _); rfl) | ((with_reducible show Ev _ _ (eval (Expr.Name _ _) _) _ _ _); (first | exact evGlob (St.bas (by assumption)) rfl rfl rfl rfl (by decide) | exact evBuilt (St.bas (by assumption)) rfl rfl (by decide) rfl rfl rfl rfl (by decide)))))
  · intro e; rw [S_len, S_len] at e; simp at e; (first | lia | omega)
  intro _ g₁₄ h₁₄ D₁₄ s₁₄
  refine sIfJ (b := decide (((S b).length : Int) < (S a).length)) (fun _ own loc => own = [] ∧ ∃ a' b', loc = ([("a", .str (S a')), ("b", .str (S b')), ("max_cost", .int mc)] : Loc) ∧ LevOk a' b' D ∧ a' ≠ [] ∧ b' ≠ [] ∧ Lows a' ∧ Lows b' ∧ a'.length ≤ b'.length) D₁₄ ?t ?k1 ?k2 ?k3
  case t =>
    refine' bLt (eLenS ?cj1 (eLoc D₁₄ rfl rfl rfl rfl (by decide)) rfl (by rw [S_len]; (first | lia | omega))) (eLenS ?cj2 (eLoc D₁₄ rfl rfl rfl rfl (by decide)) rfl (by rw [S_len]; (first | lia | omega))) rfl
    case cj1 => (first | exact evGlob (St.bas (by assumption)) rfl rfl rfl rfl (by decide) | exact evBuilt (St.bas (by assumption)) rfl rfl (by decide) rfl rfl rfl rfl (by decide))
    case cj2 => (first | exact evGlob (St.bas (by assumption)) rfl rfl rfl rfl (by decide) | exact evBuilt (St.bas (by assumption)) rfl rfl (by decide) rfl rfl rfl rfl (by decide))
  case k1 =>
    intro e g₁₅ h₁₅ D₁₅ s₁₅
    rw [S_len, S_len] at e
    have e : b.length < a.length := by simpa using e
    refine sAsgSw2 D₁₅ F R'.hn (eTup (aCons (eLoc D₁₅ rfl rfl rfl rfl (by decide)) (aCons (eLoc D₁₅ rfl rfl rfl rfl (by decide)) aNil rfl) rfl) (by simp only [List.length_cons, List.length_nil]; decide)) rfl rfl rfl rfl <| let l_8 : Loc := _; fun g₁₆ h₁₆ (D₁₆ : St _ _ _ _ _ l_8 _) s₁₆ => sNil ?_
    exact ⟨g₁₆, _, _, ⟨rfl, b, a, rfl, ok3 ea eb e, eb, ea, m2, l2, Nat.le_of_lt e⟩, s₁₆, D₁₆.weakL ⟨rfl, rfl, rfl, trivial⟩⟩
  case k2 =>
    intro e g₁₅ h₁₅ D₁₅ s₁₅
    rw [S_len, S_len] at e
    have e : a.length ≤ b.length := by simpa using e
    exact sNil ⟨g₁₅, _, _, ⟨rfl, a, b, rfl, ok2 ea eb e, ea, eb, l2, m2, e⟩, .rfl, D₁₅.weakL ⟨rfl, rfl, rfl, trivial⟩⟩
  clear ok1 ok2 ok3 z0
  rintro g₁₅ own loc h₁₅ ⟨rfl, a', b', rfl, ok, ea', eb', la', lb', hab⟩ s₁₅ D₁₅
  clear ea eb l2 m2 la lb D₁₄ D₁₃ D₁₂ D₁₁ D₁₀ D₉ D₈ D₇ D₆ D₅ D₄ D₃ D₂
  have la := la'.1
  have lb := lb'.1
  refine' sIf D₁₅ (bGt (i := (((S b').length : Int) - (S a').length) * 2) (eMul (eSub (eLenS ?ck1 (eLoc D₁₅ rfl rfl rfl rfl (by decide)) rfl (by rw [S_len]; (first | lia | omega))) (eLenS ?ck2 (eLoc D₁₅ rfl rfl rfl rfl (by decide)) rfl (by rw [S_len]; (first | lia | omega)))) ?ck3 ?ck4) ?ck5 rfl) ?_ ?_
  case ck1 => (first | exact evGlob (St.bas (by assumption)) rfl rfl rfl rfl (by decide) | exact evBuilt (St.bas (by assumption)) rfl rfl (by decide) rfl rfl rfl rfl (by decide))
  case ck2 => (first | exact evGlob (St.bas (by assumption)) rfl rfl rfl rfl (by decide) | exact evBuilt (St.bas (by assumption)) rfl rfl (by decide) rfl rfl rfl rfl (by decide))
  case ck3 => (repeat' (first | with_reducible exact eInt | ((with_reducible refine' eLoc (by assumption) ?_ ?_ ?_ ?_ ?_) <;> first | rfl | decide) | exact eGlob (St.bas (by assumption)) rfl (fun _ => .int _ _) rfl rfl rfl rfl | with_reducible refine' eMod ?_ ?_ ?_ | with_reducible refine' eDiv ?_ ?_ ?_ ?_ | with_reducible refine' eAdd ?_ ?_ | with_reducible refine' eNeg ?_ | with_reducible refine' eInv ?_ | with_reducible refine' bLt ?_ ?_ ?_ | with_reducible refine' bGt ?_ ?_ ?_ | with_reducible refine' bEq ?_ ?_ ?_ | with_reducible refine' eMin (Rm.hn (by assumption)) ?_ ?_ ?_ ⟨_, _, rfl⟩ | with_reducible exact aNil | with_reducible refine' aCons ?_ ?_ ?_ | ((with_reducible show _ ≠ (0 : Int)); first | decide | (first | lia | omega)) | ((with_reducible show Builtin.divisionGoesByPylong _ _ = false); first | exact PyProof.noPylong_of_log2 (by decide +kernel) | exact PyProof.noPylong_small (by (first | lia | omega))) | ((with_reducible show behindInMarks _ _ = false); rfl) | ((with_reducible show starEach _ _ = _); rfl) | ((with_reducible show List.any _ _ = _); rfl) | ((with_reducible show Ev _ _ (eval (Expr.Name _ _) _) _ _ _); (first | exact evGlob (St.bas (by assumption)) rfl rfl rfl rfl (by decide) | exact evBuilt (St.bas (by assumption)) rfl rfl (by decide) rfl rfl rfl rfl (by decide)))))
  case ck4 => rw [S_len, S_len]; mul_fits
  case ck5 => (repeat' (first | with_reducible exact eInt | ((with_reducible refine' eLoc (by assumption) ?_ ?_ ?_ ?_ ?_) <;> first | rfl | decide) | exact eGlob (St.bas (by assumption)) rfl (fun _ => .int _ _) rfl rfl rfl rfl | with_reducible refine' eMod ?_ ?_ ?_ | with_reducible refine' eDiv ?_ ?_ ?_ ?_ | with_reducible refine' eAdd ?_ ?_ | with_reducible refine' eNeg ?_ | with_reducible refine' eInv ?_ | with_reducible refine' bLt ?_ ?_ ?_ | with_reducible refine' bGt ?_ ?_ ?_ | with_reducible refine' bEq ?_ ?_ ?_ | with_reducible refine' eMin (Rm.hn (by assumption)) ?_ ?_ ?_ ⟨_, _, rfl⟩ | with_reducible exact aNil | with_reducible refine' aCons ?_ ?_ ?_ | ((with_reducible show _ ≠ (0 : Int)); first | decide | (first | lia | omega)) | ((with_reducible show Builtin.divisionGoesByPylong _ _ = false); first | exact PyProof.noPylong_of_log2 (by decide +kernel) | exact PyProof.noPylong_small (by (first | lia | omega))) | ((with_reducible show behindInMarks _ _ = false); rfl) | ((with_reducible show starEach _ _ = _); rfl) | ((with_reducible show List.any _ _ = _); rfl) | ((with_reducible show Ev _ _ (eval (Expr.Name _ _) _) _ _ _); (first | exact evGlob (St.bas (by assumption)) rfl rfl rfl rfl (by decide) | exact evBuilt (St.bas (by assumption)) rfl rfl (by decide) rfl rfl rfl rfl (by decide)))))
  · intro e g₁₆ h₁₆ D₁₆ s₁₆
    rw [S_len, S_len] at e
    have e : mc < ((b'.length : Int) - a'.length) * 2 := by simpa using e
    have := ok.one
    rw [show D = mc + 1 by (first | lia | omega)]
    refine' sReturnD D₁₆ ?cl1 fun v g₅ h₆ D₅ sb' p' => ⟨v, g₅, rfl, D₅.toRet.gr, p'⟩
    case cl1 => (repeat' (first | with_reducible exact eInt | ((with_reducible refine' eLoc (by assumption) ?_ ?_ ?_ ?_ ?_) <;> first | rfl | decide) | exact eGlob (St.bas (by assumption)) rfl (fun _ => .int _ _) rfl rfl rfl rfl | with_reducible refine' eMod ?_ ?_ ?_ | with_reducible refine' eDiv ?_ ?_ ?_ ?_ | with_reducible refine' eAdd ?_ ?_ | with_reducible refine' eNeg ?_ | with_reducible refine' eInv ?_ | with_reducible refine' bLt ?_ ?_ ?_ | with_reducible refine' bGt ?_ ?_ ?_ | with_reducible refine' bEq ?_ ?_ ?_ | with_reducible refine' eMin (Rm.hn (by assumption)) ?_ ?_ ?_ ⟨_, _, rfl⟩ | with_reducible exact aNil | with_reducible refine' aCons ?_ ?_ ?_ | ((with_reducible show _ ≠ (0 : Int)); first | decide | (first | lia | omega)) | ((with_reducible show Builtin.divisionGoesByPylong _ _ = false); first | exact PyProof.noPylong_of_log2 (by decide +kernel) | exact PyProof.noPylong_small (by (first | lia | omega))) | ((with_reducible show behindInMarks _ _ = false); rfl) | ((with_reducible show starEach _ _ = _); rfl) | ((with_reducible show List.any _ _ = _); rfl) | ((with_reducible show Ev _ _ (eval (Expr.Name _ _) _) _ _ _); (first | exact evGlob (St.bas (by assumption)) rfl rfl rfl rfl (by decide) | exact evBuilt (St.bas (by assumption)) rfl rfl (by decide) rfl rfl rfl rfl (by decide)))))
  intro _ g₁₆ h₁₆ D₁₆ s₁₆
  have ha0 : 0 < a'.length := List.length_pos_iff.mpr ea'
  refine' sAssignN (ds := (row0 a'.length).map .int) D₁₆ F ?cm1 rfl rfl ?_
  case cm1 =>
    have : (row0 a'.length).map Dt.int = (List.range a'.length).map fun i : Nat => Dt.int (2 + (i : Int) * 2) := by simp [row0]
    rw [this]
    refine' nListRange (b := 2 * ((S a').length + 1)) R'.hn ?cn1 (eRange3 ?cn2 (aCons ?cn3 (aCons (eMul ?cn4 (eAdd (eLenS ?cn5 (eLoc D₁₆ rfl rfl rfl rfl (by decide)) rfl (by rw [S_len]; (first | lia | omega))) ?cn6) ?cn7) (aCons ?cn8 aNil rfl) rfl) rfl) (by decide) ?cn9 rfl ⟨_, _, rfl⟩) rfl ?cna ?cnb ?cnc
    case cn1 => (first | exact evGlob (St.bas (by assumption)) rfl rfl rfl rfl (by decide) | exact evBuilt (St.bas (by assumption)) rfl rfl (by decide) rfl rfl rfl rfl (by decide))
    case cn2 => (first | exact evGlob (St.bas (by assumption)) rfl rfl rfl rfl (by decide) | exact evBuilt (St.bas (by assumption)) rfl rfl (by decide) rfl rfl rfl rfl (by decide))
    case cn3 => (repeat' (first | with_reducible exact eInt | ((with_reducible refine' eLoc (by assumption) ?_ ?_ ?_ ?_ ?_) <;> first | rfl | decide) | exact eGlob (St.bas (by assumption)) rfl (fun _ => .int _ _) rfl rfl rfl rfl | with_reducible refine' eMod ?_ ?_ ?_ | with_reducible refine' eDiv ?_ ?_ ?_ ?_ | with_reducible refine' eAdd ?_ ?_ | with_reducible refine' eNeg ?_ | with_reducible refine' eInv ?_ | with_reducible refine' bLt ?_ ?_ ?_ | with_reducible refine' bGt ?_ ?_ ?_ | with_reducible refine' bEq ?_ ?_ ?_ | with_reducible refine' eMin (Rm.hn (by assumption)) ?_ ?_ ?_ ⟨_, _, rfl⟩ | with_reducible exact aNil | with_reducible refine' aCons ?_ ?_ ?_ | ((with_reducible show _ ≠ (0 : Int)); first | decide | (first | lia | omega)) | ((with_reducible show Builtin.divisionGoesByPylong _ _ = false); first | exact PyProof.noPylong_of_log2 (by decide +kernel) | exact PyProof.noPylong_small (by (first | lia | omega))) | ((with_reducible show behindInMarks _ _ = false); rfl) | ((with_reducible show starEach _ _ = _); rfl) | ((with_reducible show List.any _ _ = _); rfl) | ((with_reducible show Ev _ _ (eval (Expr.Name _ _) _) _ _ _); (first | exact evGlob (St.bas (by assumption)) rfl rfl rfl rfl (by decide) | exact evBuilt (St.bas (by assumption)) rfl rfl (by decide) rfl rfl rfl rfl (by decide)))))
    case cn4 => (repeat' (first | with_reducible exact eInt | ((with_reducible refine' eLoc (by assumption) ?_ ?_ ?_ ?_ ?_) <;> first | rfl | decide) | exact eGlob (St.bas (by assumption)) rfl (fun _ => .int _ _) rfl rfl rfl rfl | with_reducible refine' eMod ?_ ?_ ?_ | with_reducible refine' eDiv ?_ ?_ ?_ ?_ | with_reducible refine' eAdd ?_ ?_ | with_reducible refine' eNeg ?_ | with_reducible refine' eInv ?_ | with_reducible refine' bLt ?_ ?_ ?_ | with_reducible refine' bGt ?_ ?_ ?_ | with_reducible refine' bEq ?_ ?_ ?_ | with_reducible refine' eMin (Rm.hn (by assumption)) ?_ ?_ ?_ ⟨_, _, rfl⟩ | with_reducible exact aNil | with_reducible refine' aCons ?_ ?_ ?_ | ((with_reducible show _ ≠ (0 : Int)); first | decide | (first | lia | omega)) | ((with_reducible show Builtin.divisionGoesByPylong _ _ = false); first | exact PyProof.noPylong_of_log2 (by decide +kernel) | exact PyProof.noPylong_small (by (first | lia | omega))) | ((with_reducible show behindInMarks _ _ = false); rfl) | ((with_reducible show starEach _ _ = _); rfl) | ((with_reducible show List.any _ _ = _); rfl) | ((with_reducible show Ev _ _ (eval (Expr.Name _ _) _) _ _ _); (first | exact evGlob (St.bas (by assumption)) rfl rfl rfl rfl (by decide) | exact evBuilt (St.bas (by assumption)) rfl rfl (by decide) rfl rfl rfl rfl (by decide)))))
    case cn5 => (first | exact evGlob (St.bas (by assumption)) rfl rfl rfl rfl (by decide) | exact evBuilt (St.bas (by assumption)) rfl rfl (by decide) rfl rfl rfl rfl (by decide))
    case cn6 => (repeat' (first | with_reducible exact eInt | ((with_reducible refine' eLoc (by assumption) ?_ ?_ ?_ ?_ ?_) <;> first | rfl | decide) | exact eGlob (St.bas (by assumption)) rfl (fun _ => .int _ _) rfl rfl rfl rfl | with_reducible refine' eMod ?_ ?_ ?_ | with_reducible refine' eDiv ?_ ?_ ?_ ?_ | with_reducible refine' eAdd ?_ ?_ | with_reducible refine' eNeg ?_ | with_reducible refine' eInv ?_ | with_reducible refine' bLt ?_ ?_ ?_ | with_reducible refine' bGt ?_ ?_ ?_ | with_reducible refine' bEq ?_ ?_ ?_ | with_reducible refine' eMin (Rm.hn (by assumption)) ?_ ?_ ?_ ⟨_, _, rfl⟩ | with_reducible exact aNil | with_reducible refine' aCons ?_ ?_ ?_ | ((with_reducible show _ ≠ (0 : Int)); first | decide | (first | lia | omega)) | ((with_reducible show Builtin.divisionGoesByPylong _ _ = false); first | exact PyProof.noPylong_of_log2 (by decide +kernel) | exact PyProof.noPylong_small (by (first | lia | omega))) | ((with_reducible show behindInMarks _ _ = false); rfl) | ((with_reducible show starEach _ _ = _); rfl) | ((with_reducible show List.any _ _ = _); rfl) | ((with_reducible show Ev _ _ (eval (Expr.Name _ _) _) _ _ _); (first | exact evGlob (St.bas (by assumption)) rfl rfl rfl rfl (by decide) | exact evBuilt (St.bas (by assumption)) rfl rfl (by decide) rfl rfl rfl rfl (by decide)))))
    case cn7 => rw [S_len]; mul_fits
    case cn8 => (repeat' (first | with_reducible exact eInt | ((with_reducible refine' eLoc (by assumption) ?_ ?_ ?_ ?_ ?_) <;> first | rfl | decide) | exact eGlob (St.bas (by assumption)) rfl (fun _ => .int _ _) rfl rfl rfl rfl | with_reducible refine' eMod ?_ ?_ ?_ | with_reducible refine' eDiv ?_ ?_ ?_ ?_ | with_reducible refine' eAdd ?_ ?_ | with_reducible refine' eNeg ?_ | with_reducible refine' eInv ?_ | with_reducible refine' bLt ?_ ?_ ?_ | with_reducible refine' bGt ?_ ?_ ?_ | with_reducible refine' bEq ?_ ?_ ?_ | with_reducible refine' eMin (Rm.hn (by assumption)) ?_ ?_ ?_ ⟨_, _, rfl⟩ | with_reducible exact aNil | with_reducible refine' aCons ?_ ?_ ?_ | ((with_reducible show _ ≠ (0 : Int)); first | decide | (first | lia | omega)) | ((with_reducible show Builtin.divisionGoesByPylong _ _ = false); first | exact PyProof.noPylong_of_log2 (by decide +kernel) | exact PyProof.noPylong_small (by (first | lia | omega))) | ((with_reducible show behindInMarks _ _ = false); rfl) | ((with_reducible show starEach _ _ = _); rfl) | ((with_reducible show List.any _ _ = _); rfl) | ((with_reducible show Ev _ _ (eval (Expr.Name _ _) _) _ _ _); (first | exact evGlob (St.bas (by assumption)) rfl rfl rfl rfl (by decide) | exact evBuilt (St.bas (by assumption)) rfl rfl (by decide) rfl rfl rfl rfl (by decide)))))
    case cn9 => exact PyProof.noPylong_small (by decide)
    case cna => rw [S_len]; exact small_ok (by (first | lia | omega)) (by (first | lia | omega)) (by (first | lia | omega)) (by (first | lia | omega)) (by (first | lia | omega)) (by (first | lia | omega))
    case cnb => rw [S_len]; unfold Builtin.Range.rangeSize; rw [if_pos (by decide), if_pos (by (first | lia | omega))]; (first | lia | omega)
    case cnc => (first | lia | omega)
  intro ar g₁₇ h₁₇ D₁₇ hna s₁₇
  refine sAssign D₁₇ F (eInt (i := 0)) rfl rfl <| let l_9 : Loc := _; fun g₁₈ h₁₈ (D₁₈' : St _ _ _ _ _ l_9 _) s₁₈ => ?_
  have D₁₈ := D₁₈'.weakL (loc' := [("row", .ref ar), ("result", .int 0), ("a", .str (S a')), ("b", .str (S b')), ("max_cost", .int mc)]) ⟨rfl, rfl, rfl, rfl, rfl, trivial⟩
  refine sForS (n := b'.length) (item := fun i => .int (0 + (i : Int) * 1)) (srcRange D₁₈ R'.hn (eRange1 ?co1 (aCons (eLenS ?co2 (eLoc D₁₈ rfl rfl rfl rfl (by decide)) rfl (by rw [S_len]; (first | lia | omega))) aNil rfl) rfl ⟨_, _, rfl⟩) ?co3 ?co4 fun _ _ => rfl) (fun _ => rfl)
    (fun i _ own loc => own = [(ar, .lst ((lrow (lcost a' b') a'.length i).row.map .int))] ∧ loc = ([("row", .ref ar), ("result", .int (lrow (lcost a' b') a'.length i).res), ("a", .str (S a')), ("b", .str (S b')), ("max_cost", .int mc)] : Loc)) ?co5 ?co6 ?co7
  case co1 => (first | exact evGlob (St.bas (by assumption)) rfl rfl rfl rfl (by decide) | exact evBuilt (St.bas (by assumption)) rfl rfl (by decide) rfl rfl rfl rfl (by decide))
  case co2 => (first | exact evGlob (St.bas (by assumption)) rfl rfl rfl rfl (by decide) | exact evBuilt (St.bas (by assumption)) rfl rfl (by decide) rfl rfl rfl rfl (by decide))
  case co3 => rw [S_len]; exact small_ok (by (first | lia | omega)) (by (first | lia | omega)) (by (first | lia | omega)) (by (first | lia | omega)) (by (first | lia | omega)) (by (first | lia | omega))
  case co4 => rw [S_len]; exact size_one
  case co5 => exact fun _ _ => ⟨rfl, rfl⟩
  case co6 =>
    rintro i g₃ g₄ own loc h₄ u pre Qt hi ⟨rfl, rfl⟩ s₃ s₄ D₄ du kN kR
    simp only [Int.zero_add, Int.mul_one] at du
    have hl1 := lrow_len (lcost a' b') a'.length i
    refine Wp_asgL D₄ du F rfl <| let l_10 : Loc := _; fun h₅ (D₅ : St _ _ _ _ _ l_10 _) => ?_
    refine' sAssign (d := .str (S [b'.getD i 0])) D₅ F (eIdxS (eLoc D₅ rfl rfl rfl rfl (by decide)) (eLoc D₅ rfl rfl rfl rfl (by decide)) (by simp; (first | lia | omega)) (str_at hi) fun _ _ => rfl) rfl rfl <| let l_11 : Loc := _; fun g₆ h₆ (D₆ : St _ _ _ _ _ l_11 _) s₆ => ?_
    refine' sAsgTwo (d := .int ((i : Int) * 2)) D₆ F ?ca1 rfl rfl rfl <| let l_12 : Loc := _; fun g₇ h₇ (D₇ : St _ _ _ _ _ l_12 _) s₇ => ?_
    case ca1 =>
      refine' eMul ?cb1 ?cb2 ?cb3
      case cb1 => (repeat' (first | with_reducible exact eInt | ((with_reducible refine' eLoc (by assumption) ?_ ?_ ?_ ?_ ?_) <;> first | rfl | decide) | exact eGlob (St.bas (by assumption)) rfl (fun _ => .int _ _) rfl rfl rfl rfl | with_reducible refine' eMod ?_ ?_ ?_ | with_reducible refine' eDiv ?_ ?_ ?_ ?_ | with_reducible refine' eAdd ?_ ?_ | with_reducible refine' eNeg ?_ | with_reducible refine' eInv ?_ | with_reducible refine' bLt ?_ ?_ ?_ | with_reducible refine' bGt ?_ ?_ ?_ | with_reducible refine' bEq ?_ ?_ ?_ | with_reducible refine' eMin (Rm.hn (by assumption)) ?_ ?_ ?_ ⟨_, _, rfl⟩ | with_reducible exact aNil | with_reducible refine' aCons ?_ ?_ ?_ | ((with_reducible show _ ≠ (0 : Int)); first | decide | (first | lia | omega)) | ((with_reducible show Builtin.divisionGoesByPylong _ _ = false); first | exact PyProof.noPylong_of_log2 (by decide +kernel) | exact PyProof.noPylong_small (by (first | lia | omega))) | ((with_reducible show behindInMarks _ _ = false); rfl) | ((with_reducible show starEach _ _ = _); rfl) | ((with_reducible show List.any _ _ = _); rfl) | ((with_reducible show Ev _ _ (eval (Expr.Name _ _) _) _ _ _); (first | exact evGlob (St.bas (by assumption)) rfl rfl rfl rfl (by decide) | exact evBuilt (St.bas (by assumption)) rfl rfl (by decide) rfl rfl rfl rfl (by decide)))))
      case cb2 => (repeat' (first | with_reducible exact eInt | ((with_reducible refine' eLoc (by assumption) ?_ ?_ ?_ ?_ ?_) <;> first | rfl | decide) | exact eGlob (St.bas (by assumption)) rfl (fun _ => .int _ _) rfl rfl rfl rfl | with_reducible refine' eMod ?_ ?_ ?_ | with_reducible refine' eDiv ?_ ?_ ?_ ?_ | with_reducible refine' eAdd ?_ ?_ | with_reducible refine' eNeg ?_ | with_reducible refine' eInv ?_ | with_reducible refine' bLt ?_ ?_ ?_ | with_reducible refine' bGt ?_ ?_ ?_ | with_reducible refine' bEq ?_ ?_ ?_ | with_reducible refine' eMin (Rm.hn (by assumption)) ?_ ?_ ?_ ⟨_, _, rfl⟩ | with_reducible exact aNil | with_reducible refine' aCons ?_ ?_ ?_ | ((with_reducible show _ ≠ (0 : Int)); first | decide | (first | lia | omega)) | ((with_reducible show Builtin.divisionGoesByPylong _ _ = false); first | exact PyProof.noPylong_of_log2 (by decide +kernel) | exact PyProof.noPylong_small (by (first | lia | omega))) | ((with_reducible show behindInMarks _ _ = false); rfl) | ((with_reducible show starEach _ _ = _); rfl) | ((with_reducible show List.any _ _ = _); rfl) | ((with_reducible show Ev _ _ (eval (Expr.Name _ _) _) _ _ _); (first | exact evGlob (St.bas (by assumption)) rfl rfl rfl rfl (by decide) | exact evBuilt (St.bas (by assumption)) rfl rfl (by decide) rfl rfl rfl rfl (by decide)))))
      case cb3 => mul_fits
    refine sAssign D₇ F (eInt (i := 9223372036854775807)) rfl rfl <| let l_13 : Loc := _; fun g₈ h₈ (D₈' : St _ _ _ _ _ l_13 _) s₈ => ?_
    have D₈ := D₈'.weakL (loc' := [("minimum", .int 9223372036854775807), ("result", .int ((i : Int) * 2)), ("distance", .int ((i : Int) * 2)), ("bchar", .str (S [b'.getD i 0])), ("row", .ref ar), ("a", .str (S a')), ("b", .str (S b')), ("max_cost", .int mc)]) ⟨rfl, rfl, rfl, rfl, rfl, rfl, rfl, rfl, trivial⟩
    refine sForS (n := a'.length) (item := fun i => .int (0 + (i : Int) * 1)) (own := pre ++ [(ar, .lst ((lrow (lcost a' b') a'.length i).row.map .int))]) (srcRange D₈ R'.hn (eRange1 ?cc1 (aCons (eLenS ?cc2 (eLoc D₈ rfl rfl rfl rfl (by decide)) rfl (by rw [S_len]; (first | lia | omega))) aNil rfl) rfl ⟨_, _, rfl⟩) ?cc3 ?cc4 fun _ _ => rfl) (fun _ => rfl)
      (fun k _ own loc => own = pre ++ [(ar, .lst ((lin (lcost a' b' i) (lrow (lcost a' b') a'.length i).row (i * 2) k).row.map .int))] ∧ loc = ([("minimum", .int (lin (lcost a' b' i) (lrow (lcost a' b') a'.length i).row (i * 2) k).min), ("result", .int (lin (lcost a' b' i) (lrow (lcost a' b') a'.length i).row (i * 2) k).res), ("distance", .int (lin (lcost a' b' i) (lrow (lcost a' b') a'.length i).row (i * 2) k).dist), ("bchar", .str (S [b'.getD i 0])), ("row", .ref ar), ("a", .str (S a')), ("b", .str (S b')), ("max_cost", .int mc)] : Loc)) ?cc5 ?cc6 ?cc7
    case cc1 => (first | exact evGlob (St.bas (by assumption)) rfl rfl rfl rfl (by decide) | exact evBuilt (St.bas (by assumption)) rfl rfl (by decide) rfl rfl rfl rfl (by decide))
    case cc2 => (first | exact evGlob (St.bas (by assumption)) rfl rfl rfl rfl (by decide) | exact evBuilt (St.bas (by assumption)) rfl rfl (by decide) rfl rfl rfl rfl (by decide))
    case cc3 => rw [S_len]; exact small_ok (by (first | lia | omega)) (by (first | lia | omega)) (by (first | lia | omega)) (by (first | lia | omega)) (by (first | lia | omega)) (by (first | lia | omega))
    case cc4 => rw [S_len]; exact size_one
    case cc5 => exact fun _ _ => ⟨rfl, rfl⟩
    case cc6 =>
      rintro k g₉ g₁₀ own loc h₉ u pre₂ Qt' hk ⟨rfl, rfl⟩ s₉ s₁₀ D₉ du kN' _
      simp only [Int.zero_add, Int.mul_one] at du
      have hl2 := lin_len (lcost a' b' i) (lrow (lcost a' b') a'.length i).row (i * 2) k
      generalize hs : lin (lcost a' b' i) (lrow (lcost a' b') a'.length i).row (i * 2) k = s at *
      refine Wp_asgL D₉ du F rfl <| let l_14 : Loc := _; fun h₁₀ (D₁₀ : St _ _ _ _ _ l_14 _) => ?_
      refine' sAssign (d := .int (s.dist + lcost a' b' i k)) D₁₀ F (eAdd (eLoc D₁₀ rfl rfl rfl rfl (by decide)) ?cd1) rfl rfl <| let l_15 : Loc := _; fun g₁₁ h₁₁ (D₁₁ : St _ _ _ _ _ l_15 _) s₁₁ => ?_
      case cd1 =>
        refine' eCallF (f := 100) D₁₀.bas ?ce1 (c.X _ _ rfl) rfl (aCons (d := .str (S [b'.getD i 0])) (eLoc D₁₀ rfl rfl rfl rfl (by decide)) (aCons (d := .str (S [a'.getD k 0])) (eIdxS (eLoc D₁₀ rfl rfl rfl rfl (by decide)) (eLoc D₁₀ rfl rfl rfl rfl (by decide)) (by simp; (first | lia | omega)) (str_at hk) fun _ _ => rfl) aNil rfl) rfl) ⟨_, _, rfl⟩ ?ce2
        case ce1 => (first | exact evGlob (St.bas (by assumption)) rfl rfl rfl rfl (by decide) | exact evBuilt (St.bas (by assumption)) rfl rfl (by decide) rfl rfl rfl rfl (by decide))
        case ce2 =>
          intro vs g' h' G' dv
          obtain ⟨v₁, v₂, rfl, d₁, d₂⟩ := dv.two_inv
          exact sub_spec (R'.le (by (first | lia | omega)) (by (first | lia | omega))) (D₁₀.bas.gr G').pre d₁ d₂ (lb'.at hi) (la'.at hk)
      refine' sAssign (d := .int (s.row.getD k 0)) D₁₁ F ?cf1 rfl rfl <| let l_16 : Loc := _; fun g₁₂ h₁₂ (D₁₂ : St _ _ _ _ _ l_16 _) s₁₂ => ?_
      case cf1 => exact eIdx (lR (eLoc D₁₁ rfl rfl rfl rfl (by decide)) (D₁₁.lstAt (by (repeat' (first | exact List.Mem.head _ | refine' List.mem_append_right _ ?_ | refine' List.Mem.tail _ ?_))))) (eLoc D₁₁ rfl rfl rfl rfl (by decide)) (by (first | lia | omega)) (ints_at (by (first | decide | (first | lia | omega) | (simp only [List.length_map, List.length_append, List.length_cons, List.length_nil, sizeLine_eq] at *; (first | lia | omega))))) (by (first | decide | (first | lia | omega) | (simp only [List.length_map, List.length_append, List.length_cons, List.length_nil, sizeLine_eq] at *; (first | lia | omega)))) fun _ _ => rfl
      refine' sAssign (d := .int (Min.min s.res (s.row.getD k 0) + 2)) D₁₂ F ?cf2 rfl rfl <| let l_17 : Loc := _; fun g₁₃ h₁₃ (D₁₃ : St _ _ _ _ _ l_17 _) s₁₃ => ?_
      case cf2 => (repeat' (first | with_reducible exact eInt | ((with_reducible refine' eLoc (by assumption) ?_ ?_ ?_ ?_ ?_) <;> first | rfl | decide) | exact eGlob (St.bas (by assumption)) rfl (fun _ => .int _ _) rfl rfl rfl rfl | with_reducible refine' eMod ?_ ?_ ?_ | with_reducible refine' eDiv ?_ ?_ ?_ ?_ | with_reducible refine' eAdd ?_ ?_ | with_reducible refine' eNeg ?_ | with_reducible refine' eInv ?_ | with_reducible refine' bLt ?_ ?_ ?_ | with_reducible refine' bGt ?_ ?_ ?_ | with_reducible refine' bEq ?_ ?_ ?_ | with_reducible refine' eMin (Rm.hn (by assumption)) ?_ ?_ ?_ ⟨_, _, rfl⟩ | with_reducible exact aNil | with_reducible refine' aCons ?_ ?_ ?_ | ((with_reducible show _ ≠ (0 : Int)); first | decide | (first | lia | omega)) | ((with_reducible show Builtin.divisionGoesByPylong _ _ = false); first | exact PyProof.noPylong_of_log2 (by decide +kernel) | exact PyProof.noPylong_small (by (first | lia | omega))) | ((with_reducible show behindInMarks _ _ = false); rfl) | ((with_reducible show starEach _ _ = _); rfl) | ((with_reducible show List.any _ _ = _); rfl) | ((with_reducible show Ev _ _ (eval (Expr.Name _ _) _) _ _ _); (first | exact evGlob (St.bas (by assumption)) rfl rfl rfl rfl (by decide) | exact evBuilt (St.bas (by assumption)) rfl rfl (by decide) rfl rfl rfl rfl (by decide)))))
      refine' sAssign (d := .int (Min.min (Min.min s.res (s.row.getD k 0) + 2) (s.dist + lcost a' b' i k))) D₁₃ F ?cf3 rfl rfl fun g₁₄ h₁₄ D₁₄ s₁₄ => ?_
      case cf3 => (repeat' (first | with_reducible exact eInt | ((with_reducible refine' eLoc (by assumption) ?_ ?_ ?_ ?_ ?_) <;> first | rfl | decide) | exact eGlob (St.bas (by assumption)) rfl (fun _ => .int _ _) rfl rfl rfl rfl | with_reducible refine' eMod ?_ ?_ ?_ | with_reducible refine' eDiv ?_ ?_ ?_ ?_ | with_reducible refine' eAdd ?_ ?_ | with_reducible refine' eNeg ?_ | with_reducible refine' eInv ?_ | with_reducible refine' bLt ?_ ?_ ?_ | with_reducible refine' bGt ?_ ?_ ?_ | with_reducible refine' bEq ?_ ?_ ?_ | with_reducible refine' eMin (Rm.hn (by assumption)) ?_ ?_ ?_ ⟨_, _, rfl⟩ | with_reducible exact aNil | with_reducible refine' aCons ?_ ?_ ?_ | ((with_reducible show _ ≠ (0 : Int)); first | decide | (first | lia | omega)) | ((with_reducible show Builtin.divisionGoesByPylong _ _ = false); first | exact PyProof.noPylong_of_log2 (by decide +kernel) | exact PyProof.noPylong_small (by (first | lia | omega))) | ((with_reducible show behindInMarks _ _ = false); rfl) | ((with_reducible show starEach _ _ = _); rfl) | ((with_reducible show List.any _ _ = _); rfl) | ((with_reducible show Ev _ _ (eval (Expr.Name _ _) _) _ _ _); (first | exact evGlob (St.bas (by assumption)) rfl rfl rfl rfl (by decide) | exact evBuilt (St.bas (by assumption)) rfl rfl (by decide) rfl rfl rfl rfl (by decide)))))
      have hm1 : (s.row.map Dt.int).length = s.row.length := List.length_map _
      refine' sSetL D₁₄ (eLoc D₁₄ rfl rfl rfl rfl (by decide)) (eLoc D₁₄ rfl rfl rfl rfl (by decide)) (eLoc D₁₄ rfl rfl rfl rfl (by decide)) (Up.app (Up.app .head)) (by (first | lia | omega)) (by (first | lia | omega)) (by (first | lia | omega)) rfl fun g₁₅ h₁₅ D₁₅ s₁₅ => ?_
      generalize hz : Min.min (Min.min s.res (s.row.getD k 0) + 2) (s.dist + lcost a' b' i k) = z at *
      have eo : ((s.row.map Dt.int).set (k : Int).toNat (.int z)) = (s.row.set k z).map Dt.int := by rw [List.map_set]; rfl
      rw [eo] at D₁₅
      have en : lin (lcost a' b' i) (lrow (lcost a' b') a'.length i).row (i * 2) (k + 1) = ⟨s.row.set k z, z, s.row.getD k 0, if z < s.min then z else s.min⟩ := by rw [← hz, ← hs]; rfl
      refine' sIf D₁₅ (b := decide (z < s.min)) ?cg1 ?cg2 ?cg3
      case cg1 => (repeat' (first | with_reducible exact eInt | ((with_reducible refine' eLoc (by assumption) ?_ ?_ ?_ ?_ ?_) <;> first | rfl | decide) | exact eGlob (St.bas (by assumption)) rfl (fun _ => .int _ _) rfl rfl rfl rfl | with_reducible refine' eMod ?_ ?_ ?_ | with_reducible refine' eDiv ?_ ?_ ?_ ?_ | with_reducible refine' eAdd ?_ ?_ | with_reducible refine' eNeg ?_ | with_reducible refine' eInv ?_ | with_reducible refine' bLt ?_ ?_ ?_ | with_reducible refine' bGt ?_ ?_ ?_ | with_reducible refine' bEq ?_ ?_ ?_ | with_reducible refine' eMin (Rm.hn (by assumption)) ?_ ?_ ?_ ⟨_, _, rfl⟩ | with_reducible exact aNil | with_reducible refine' aCons ?_ ?_ ?_ | ((with_reducible show _ ≠ (0 : Int)); first | decide | (first | lia | omega)) | ((with_reducible show Builtin.divisionGoesByPylong _ _ = false); first | exact PyProof.noPylong_of_log2 (by decide +kernel) | exact PyProof.noPylong_small (by (first | lia | omega))) | ((with_reducible show behindInMarks _ _ = false); rfl) | ((with_reducible show starEach _ _ = _); rfl) | ((with_reducible show List.any _ _ = _); rfl) | ((with_reducible show Ev _ _ (eval (Expr.Name _ _) _) _ _ _); (first | exact evGlob (St.bas (by assumption)) rfl rfl rfl rfl (by decide) | exact evBuilt (St.bas (by assumption)) rfl rfl (by decide) rfl rfl rfl rfl (by decide)))))
      case cg2 =>
        intro e g₁₆ h₁₆ D₁₆ s₁₆
        refine sAssign D₁₆ F (eLoc D₁₆ rfl rfl rfl rfl (by decide)) rfl rfl fun g₁₇ h₁₇ D₁₇ s₁₇ => sNil (kN' g₁₇ _ _ _ ⟨rfl, rfl⟩ ?_ ?_)
        · exact ((((((s₁₁.trans s₁₂).trans s₁₃).trans s₁₄).trans s₁₅).trans s₁₆).trans s₁₇)
        · rw [en]
          rw [if_pos (by simpa using e)]
          exact D₁₇.weakL ⟨rfl, rfl, rfl, rfl, rfl, rfl, rfl, rfl, trivial⟩
      case cg3 =>
        intro e g₁₆ h₁₆ D₁₆ s₁₆
        refine sNil (kN' g₁₆ _ _ _ ⟨rfl, rfl⟩ ?_ ?_)
        · exact (((((s₁₁.trans s₁₂).trans s₁₃).trans s₁₄).trans s₁₅).trans s₁₆)
        · rw [en]
          rw [if_neg (by simpa using e)]
          exact D₁₆.weakL ⟨rfl, rfl, rfl, rfl, rfl, rfl, rfl, rfl, trivial⟩
    case cc7 =>
      rintro g₉ own loc h₉ ⟨rfl, rfl⟩ s₉ D₉
      have en : (lrow (lcost a' b') a'.length (i + 1)) = lin (lcost a' b' i) (lrow (lcost a' b') a'.length i).row (i * 2) a'.length := rfl
      rw [← en] at D₉
      refine' sIf D₉ (b := decide (mc < (lrow (lcost a' b') a'.length (i + 1)).min)) ?ch1 ?ch2 ?ch3
      case ch1 => (repeat' (first | with_reducible exact eInt | ((with_reducible refine' eLoc (by assumption) ?_ ?_ ?_ ?_ ?_) <;> first | rfl | decide) | exact eGlob (St.bas (by assumption)) rfl (fun _ => .int _ _) rfl rfl rfl rfl | with_reducible refine' eMod ?_ ?_ ?_ | with_reducible refine' eDiv ?_ ?_ ?_ ?_ | with_reducible refine' eAdd ?_ ?_ | with_reducible refine' eNeg ?_ | with_reducible refine' eInv ?_ | with_reducible refine' bLt ?_ ?_ ?_ | with_reducible refine' bGt ?_ ?_ ?_ | with_reducible refine' bEq ?_ ?_ ?_ | with_reducible refine' eMin (Rm.hn (by assumption)) ?_ ?_ ?_ ⟨_, _, rfl⟩ | with_reducible exact aNil | with_reducible refine' aCons ?_ ?_ ?_ | ((with_reducible show _ ≠ (0 : Int)); first | decide | (first | lia | omega)) | ((with_reducible show Builtin.divisionGoesByPylong _ _ = false); first | exact PyProof.noPylong_of_log2 (by decide +kernel) | exact PyProof.noPylong_small (by (first | lia | omega))) | ((with_reducible show behindInMarks _ _ = false); rfl) | ((with_reducible show starEach _ _ = _); rfl) | ((with_reducible show List.any _ _ = _); rfl) | ((with_reducible show Ev _ _ (eval (Expr.Name _ _) _) _ _ _); (first | exact evGlob (St.bas (by assumption)) rfl rfl rfl rfl (by decide) | exact evBuilt (St.bas (by assumption)) rfl rfl (by decide) rfl rfl rfl rfl (by decide)))))
      case ch2 =>
        intro e g₁₀ h₁₀ D₁₀ s₁₀
        have e : mc < _ := of_decide_eq_true e
        have := ok.mins i hi
        have hD : mc + 1 = D := by (first | lia | omega)
        refine' sReturnD (d := .int (mc + 1)) D₁₀ ?ci1 fun v g₅ h₆ D₅ sb' p' => kR _ _ ⟨v, g₅, rfl, (D₅.sub (own' := []) (fun _ h => nomatch h) .nil).toRet.gr, hD ▸ p'⟩
        case ci1 => (repeat' (first | with_reducible exact eInt | ((with_reducible refine' eLoc (by assumption) ?_ ?_ ?_ ?_ ?_) <;> first | rfl | decide) | exact eGlob (St.bas (by assumption)) rfl (fun _ => .int _ _) rfl rfl rfl rfl | with_reducible refine' eMod ?_ ?_ ?_ | with_reducible refine' eDiv ?_ ?_ ?_ ?_ | with_reducible refine' eAdd ?_ ?_ | with_reducible refine' eNeg ?_ | with_reducible refine' eInv ?_ | with_reducible refine' bLt ?_ ?_ ?_ | with_reducible refine' bGt ?_ ?_ ?_ | with_reducible refine' bEq ?_ ?_ ?_ | with_reducible refine' eMin (Rm.hn (by assumption)) ?_ ?_ ?_ ⟨_, _, rfl⟩ | with_reducible exact aNil | with_reducible refine' aCons ?_ ?_ ?_ | ((with_reducible show _ ≠ (0 : Int)); first | decide | (first | lia | omega)) | ((with_reducible show Builtin.divisionGoesByPylong _ _ = false); first | exact PyProof.noPylong_of_log2 (by decide +kernel) | exact PyProof.noPylong_small (by (first | lia | omega))) | ((with_reducible show behindInMarks _ _ = false); rfl) | ((with_reducible show starEach _ _ = _); rfl) | ((with_reducible show List.any _ _ = _); rfl) | ((with_reducible show Ev _ _ (eval (Expr.Name _ _) _) _ _ _); (first | exact evGlob (St.bas (by assumption)) rfl rfl rfl rfl (by decide) | exact evBuilt (St.bas (by assumption)) rfl rfl (by decide) rfl rfl rfl rfl (by decide)))))
      case ch3 =>
        intro e g₁₀ h₁₀ D₁₀ s₁₀
        refine sNil (kN g₁₀ _ _ _ ⟨rfl, rfl⟩ ?_ (D₁₀.weakL ⟨rfl, rfl, rfl, rfl, rfl, trivial⟩))
        exact ((((s₆.trans s₇).trans s₈).trans s₉).trans s₁₀)
  case co7 =>
    rintro g₃ own loc h₄ ⟨rfl, rfl⟩ s₃ D₄
    rw [← ok.res]
    exact sReturnD D₄ (eLoc D₄ rfl rfl rfl rfl (by decide)) fun v g₅ h₆ D₅ sb' p' => ⟨v, g₅, rfl, (D₅.sub (own' := []) (fun _ h => nomatch h) .nil).toRet.gr, p'⟩
end
noncomputable abbrev tabI2 : OC := OC.tab ⟨52, 4, 61, 28⟩ "_int2digits.<locals>.inner"
theorem log2_lt {x k : Nat} (h : x < 2 ^ k) (hk : 0 < k) : x.log2 < k := by
  by_cases hx : x = 0
  · subst hx; simpa using hk
  · exact (Nat.log2_lt hx).mpr h
theorem bits_le {x k : Nat} (h : x < 2 ^ k) : Builtin.Int.intBits (x : Int) ≤ k := by
  unfold Builtin.Int.intBits
  split
  · (first | lia | omega)
  · next h0 =>
    have : x ≠ 0 := by simpa using h0
    have := (Nat.log2_lt this).mpr h
    show (Int.natAbs (x : Int)).log2 + 1 ≤ k
    rw [Int.natAbs_natCast]; (first | lia | omega)
theorem bits_lt (x : Nat) : x < 2 ^ Builtin.Int.intBits (x : Int) := by
  unfold Builtin.Int.intBits
  split
  · next h => have : x = 0 := by simpa using h
              subst this; decide
  · show x < 2 ^ ((Int.natAbs (x : Int)).log2 + 1)
    rw [Int.natAbs_natCast]
    exact Nat.lt_log2_self
theorem fdiv_nat (a b : Nat) : (a : Int).fdiv (b : Int) = ((a / b : Nat) : Int) := by
  rw [Int.fdiv_eq_ediv_of_nonneg _ (by (first | lia | omega))]; rfl
section
variable {c : GC}
theorem i2d_spec {A : Around} {g : FB} {h : Heap} {v w : Value} {x n m : Nat} (R : Rm A 13 180) (P : Pre c g [(67, tabI2)] h) (hv : Den g v (.int x)) (hw : Den g w (.int n))
    (hx : x < 2 ^ 12) (hn : 0 < n) (hn2 : n ≤ 12) (hD : (Builtin.Int.intBits x + n - 1) / n = m) :
    Cd c A (.call (.ref 72) ⟨[v, w], []⟩) (fun r h' => ∃ v g' own', r = .ok (.ret v) ∧ Ret ⟨g, h, [67]⟩ g' own' h' ∧ own' = [(67, tabI2)] ∧ Den g' v (.lst ((digs n m x).map .int))) h := by
  refine enterC (binds := [("a", v), ("n", w)]) (bd := [("a", .int x)]) (dd := 12) (uu := 177) (fun L => [(L + 1 + 1 + 1, .cell none), (L + 1 + 1, .cell none), (L + 1, .cell (some (.int n)))]) P rfl rfl R (fun s hs => .of_eq rfl) ?hkind ?hnd rfl rfl rfl ?hled ?hb fun L h₁ D F R' => ?_
  case hkind =>
    intro k y hy
    rcases List.mem_cons.mp hy with rfl | hy
    · exact .inl rfl
    · cases List.mem_singleton.mp hy
      exact .inr ⟨rfl, rfl⟩
  case hnd => decide
  case hled =>
    intro L
    exact .none rfl (.none rfl (.some (v := w) rfl hw .nil))
  case hb =>
    intro L y d e
    rw [List.lookup_cons] at e
    by_cases q : y = "a"
    · subst q
      simp at e; subst e
      exact ⟨v, rfl, hv⟩
    · have q' : (y == "a") = false := beq_eq_false_iff_ne.mpr q
      rw [q'] at e; simp at e
  have D : St c _ g [(L + 1 + 1 + 1, .cell none), (L + 1 + 1, .cell none), (L + 1, .cell (some (.int n))), (67, tabI2)] L _ h₁ := D
  have hD1 : m ≤ 12 := by
    have h1 := bits_le hx
    have h2 : Builtin.Int.intBits (x : Int) + n - 1 ≤ 12 + n - 1 := by (first | lia | omega)
    have h3 := Nat.div_le_div_right (c := n) h2
    have h4 : (12 + n - 1) / n ≤ 12 := by
      apply Nat.le_of_lt_succ
      rw [Nat.div_lt_iff_lt_mul hn]
      have : (12 + 1) * n = 12 * n + n := by (first | lia | omega)
      have : 12 ≤ 12 * n := by (first | lia | omega)
      (first | lia | omega)
    (first | lia | omega)
  refine sAssignW (EvN.wp (ds := List.replicate m (.int 0)) ?ca1 D fun a g₂ h₂ D₂ hna G₂ => Wp_storeC D₂ (.ref a) F rfl rfl (.tail (.tail .head)) fun h₃ D₃ => ?_) rfl
  case ca1 =>
    rw [show List.replicate m (Dt.int 0) = (List.replicate (m : Int).toNat [Dt.int 0]).flatten by simp]
    refine nMul (lN D.gr (eList (aCons eInt aNil rfl) (by decide))) ?_ (by (first | lia | omega)) (by (first | lia | omega)) (by simp only [List.length_cons, List.length_nil]; (first | lia | omega))
    have cn := D.cellAt (a := L + 1) (d := .int n) (by (repeat' (first | exact List.Mem.head _ | refine' List.mem_append_right _ ?_ | refine' List.Mem.tail _ ?_)))
    rw [← hD, show (((Builtin.Int.intBits (x : Int) + n - 1) / n : Nat) : Int) = ((Builtin.Int.intBits (x : Int) : Int) + (n : Int) - 1).fdiv n by
      rw [← fdiv_nat]; congr 1; (first | lia | omega)]
    refine eDiv (eSub (eAdd (eBitLen (eLoc D rfl rfl rfl rfl (by decide)) rfl rfl) (eCell cn rfl rfl rfl (by decide))) eInt) (eCell cn rfl rfl rfl (by decide)) (by (first | lia | omega)) (PyProof.noPylong_small (by (first | lia | omega)))
  refine sDefC (P := 67) (ow := fun f => [(a, .lst (List.replicate m (.int 0))), (L + 1 + 1 + 1, .cell (some (.ref f))), (L + 1 + 1, .cell (some (.ref a))), (L + 1, .cell (some (.int n))), (67, tabI2)]) D₃ F rfl (codeHd_of_K c.X rfl) (.tail _ (.tail _ (.tail _ (.tail _ (.head _))))) rfl rfl rfl rfl rfl rfl rfl (fun f => .tail .head) fun f c' ctv g' h' D₄ s e K hnf => ?_
  have inner : ∀ (k : Nat) {A : Around} {g₁ : FB} {h : Heap} {v w u : Value} {y l : Nat} {p mm q : List Dt}, Rm A k (3 * k + 50) → Pre c g₁ [(a, .lst (p ++ (mm ++ q))), (L + 1 + 1 + 1, .cell (some (.ref f))), (L + 1 + 1, .cell (some (.ref a))), (L + 1, .cell (some (.int n)))] h → Sub g' g₁ →
      Den g₁ v (.int y) → Den g₁ w (.int l) → Den g₁ u (.int (l + k : Nat)) → 0 < k → k ≤ 12 → y < 2 ^ (n * k) → y < 2 ^ 12 → p.length = l → mm.length = k → p.length + (mm.length + q.length) ≤ 40 →
      Cd c A (.call (.ref f) ⟨[v, w, u], []⟩) (fun r h' => ∃ v g' own', r = .ok (.ret v) ∧ Ret ⟨g₁, h, [a, L + 1 + 1 + 1, L + 1 + 1, L + 1]⟩ g' own' h' ∧ v = .none ∧
        own' = [(a, .lst (p ++ ((digs n k y).map .int ++ q))), (L + 1 + 1 + 1, .cell (some (.ref f))), (L + 1 + 1, .cell (some (.ref a))), (L + 1, .cell (some (.int n)))]) h := by
    clear D D₂ D₃ D₄ R R' F
    intro k
    induction k using Nat.strongRecOn with
    | _ k ih =>
    intro A g₁ h v w u y l p mm q R P sb hv hw hu hk0 hk hy hy2 hp hmm hq
    obtain ⟨k', rfl⟩ : ∃ k', k = k' + 1 := ⟨k - 1, by (first | lia | omega)⟩
    refine enterI (dd := k') (uu := 3 * k' + 50) (binds := [("x", v), ("L", w), ("R", u)]) P (sb _ _ e) (K.mono sb) (R.le (by (first | lia | omega)) (by (first | lia | omega))) (fun s hs => .of_eq rfl) (locs rfl) (by decide) rfl rfl rfl (lookup3 hv hw hu) fun L' h₁ D F R' => ?_
    have ca := D.cellAt (a := L + 1 + 1) (d := .ref a) (by (repeat' (first | exact List.Mem.head _ | refine' List.mem_append_right _ ?_ | refine' List.Mem.tail _ ?_)))
    have ci := D.cellAt (a := L + 1 + 1 + 1) (d := .ref f) (by (repeat' (first | exact List.Mem.head _ | refine' List.mem_append_right _ ?_ | refine' List.Mem.tail _ ?_)))
    have cn := D.cellAt (a := L + 1) (d := .int n) (by (repeat' (first | exact List.Mem.head _ | refine' List.mem_append_right _ ?_ | refine' List.Mem.tail _ ?_)))
    refine' sIf D (b := ((l : Int) + 1 == ((l + (k' + 1) : Nat) : Int))) ?cb1 ?cb2 ?cb3
    case cb1 => (repeat' (first | with_reducible exact eInt | ((with_reducible refine' eLoc (by assumption) ?_ ?_ ?_ ?_ ?_) <;> first | rfl | decide) | exact eGlob (St.bas (by assumption)) rfl (fun _ => .int _ _) rfl rfl rfl rfl | with_reducible refine' eMod ?_ ?_ ?_ | with_reducible refine' eDiv ?_ ?_ ?_ ?_ | with_reducible refine' eAdd ?_ ?_ | with_reducible refine' eNeg ?_ | with_reducible refine' eInv ?_ | with_reducible refine' bLt ?_ ?_ ?_ | with_reducible refine' bGt ?_ ?_ ?_ | with_reducible refine' bEq ?_ ?_ ?_ | with_reducible refine' eMin (Rm.hn (by assumption)) ?_ ?_ ?_ ⟨_, _, rfl⟩ | with_reducible exact aNil | with_reducible refine' aCons ?_ ?_ ?_ | ((with_reducible show _ ≠ (0 : Int)); first | decide | (first | lia | omega)) | ((with_reducible show Builtin.divisionGoesByPylong _ _ = false); first | exact PyProof.noPylong_of_log2 (by decide +kernel) | exact PyProof.noPylong_small (by (first | lia | omega))) | ((with_reducible show behindInMarks _ _ = false); rfl) | ((with_reducible show starEach _ _ = _); rfl) | ((with_reducible show List.any _ _ = _); rfl) | ((with_reducible show Ev _ _ (eval (Expr.Name _ _) _) _ _ _); (first | exact evGlob (St.bas (by assumption)) rfl rfl rfl rfl (by decide) | exact evBuilt (St.bas (by assumption)) rfl rfl (by decide) rfl rfl rfl rfl (by decide)))))
    case cb2 =>
      intro e' g₂ h₂ D₂ s₂
      have : k' = 0 := by have := eq_of_beq e'; (first | lia | omega)
      subst this
      obtain ⟨z, rfl⟩ := List.length_eq_one_iff.mp hmm
      refine sSetL D₂ (eLoc D₂ rfl rfl rfl rfl (by decide)) (eFree (D₂.cellAt (a := L + 1 + 1) (d := .ref a) (by (repeat' (first | exact List.Mem.head _ | refine' List.mem_append_right _ ?_ | refine' List.Mem.tail _ ?_)))) rfl rfl rfl (by decide) (by decide)) (eLoc D₂ rfl rfl rfl rfl (by decide)) .head (by (first | lia | omega)) (by simp; (first | lia | omega)) (by simp; (first | lia | omega)) rfl fun g₃ h₃ D₃ s₃ => sReturn0 ⟨.none, g₃, _, rfl, D₃.toRet, rfl, ?_⟩
      rw [show ((l : Int)).toNat = p.length by (first | lia | omega), show digs n (0 + 1) y = [((y % 2 ^ n : Nat) : Int)] from rfl, Nat.mod_eq_of_lt (by simpa using hy)]
      simp
    case cb3 =>
      intro e' g₂ h₂ D₂ s₂
      have hk2 : 0 < k' := by
        apply Nat.pos_of_ne_zero
        intro q; subst q
        have : ((l : Int) + 1 == ((l + (0 + 1) : Nat) : Int)) = true := by simp
        rw [this] at e'; cases e'
      have hh : (k' + 1) / 2 ≤ k' := by (first | lia | omega)
      have hh0 : 0 < (k' + 1) / 2 := by (first | lia | omega)
      generalize hi : (k' + 1) / 2 = i at *
      have hs1 : i * n ≤ 144 := Nat.le_trans (Nat.mul_le_mul (show i ≤ 12 by (first | lia | omega)) hn2) (by decide)
      refine' sAssign (d := .int ((l + i : Nat) : Int)) D₂ F ?cc1 rfl rfl fun g₃ h₃ D₃ s₃ => ?_
      case cc1 =>
        rw [show ((l + i : Nat) : Int) = ((l : Int) + ((l + (k' + 1) : Nat) : Int)).fdiv (2 ^ (1 : Int).toNat) by
          rw [show (2 : Int) ^ (1 : Int).toNat = ((2 : Nat) : Int) by decide, show (l : Int) + ((l + (k' + 1) : Nat) : Int) = ((l + (l + (k' + 1)) : Nat) : Int) by (first | lia | omega), fdiv_nat]; (first | lia | omega)]
        exact eShr (eAdd (eLoc D₂ rfl rfl rfl rfl (by decide)) (eLoc D₂ rfl rfl rfl rfl (by decide))) eInt (by decide)
      refine' sAssign (d := .int ((i * n : Nat) : Int)) D₃ F ?cc2 rfl rfl fun g₄ h₄ D₄ s₄ => ?_
      case cc2 =>
        rw [show ((i * n : Nat) : Int) = (((l + i : Nat) : Int) - (l : Int)) * (n : Int) by rw [Int.natCast_mul]; congr 1; (first | lia | omega)]
        refine eMul (eSub (eLoc D₃ rfl rfl rfl rfl (by decide)) (eLoc D₃ rfl rfl rfl rfl (by decide))) (eFree (D₃.cellAt (a := L + 1) (d := .int n) (by (repeat' (first | exact List.Mem.head _ | refine' List.mem_append_right _ ?_ | refine' List.Mem.tail _ ?_)))) rfl rfl rfl (by decide) (by decide)) ?_
        rw [show ((l + i : Nat) : Int) - (l : Int) = i by (first | lia | omega)]
        mul_fits
      refine' sAssign (d := .int ((y / 2 ^ (i * n) : Nat) : Int)) D₄ F ?cc3 rfl rfl fun g₅ h₅ D₅ s₅ => ?_
      case cc3 =>
        rw [show ((y / 2 ^ (i * n) : Nat) : Int) = (y : Int).fdiv (2 ^ ((i * n : Nat) : Int).toNat) by
          rw [Int.toNat_natCast, ← fdiv_nat]; congr 1]
        exact eShr (eLoc D₄ rfl rfl rfl rfl (by decide)) (eLoc D₄ rfl rfl rfl rfl (by decide)) (by (first | lia | omega))
      have hy3 : y / 2 ^ (i * n) ≤ y := Nat.div_le_self _ _
      refine' sAssign (d := .int ((y % 2 ^ (i * n) : Nat) : Int)) D₅ F ?cc4 rfl rfl fun g₆ h₆ D₆ s₆ => ?_
      case cc4 =>
        rw [← xor_low, show ((y / 2 ^ (i * n) * 2 ^ (i * n) : Nat) : Int) = ((y / 2 ^ (i * n) : Nat) : Int) * 2 ^ ((i * n : Nat) : Int).toNat by
          rw [Int.toNat_natCast, Int.natCast_mul, Int.natCast_pow]; try rfl]
        exact eXor (eLoc D₅ rfl rfl rfl rfl (by decide)) (eShl (eLoc D₅ rfl rfl rfl rfl (by decide)) (eLoc D₅ rfl rfl rfl rfl (by decide)) (by (first | lia | omega)) (by (first | lia | omega)) (by rw [Int.natAbs_natCast]; (first | lia | omega)))
      obtain ⟨m₁, m₂, rfl, l1, l2⟩ : ∃ m₁ m₂, mm = m₁ ++ m₂ ∧ m₁.length = i ∧ m₂.length = k' + 1 - i := ⟨mm.take i, mm.drop i, (List.take_append_drop i mm).symm, by rw [List.length_take]; (first | lia | omega), by rw [List.length_drop]; (first | lia | omega)⟩
      have hy4 : y % 2 ^ (i * n) ≤ y := Nat.mod_le _ _
      have D₆' := D₆
      rw [List.append_assoc m₁ m₂ q] at D₆'
      refine' sExpr (Wp_CallI (fo := fnM _ _ _ _ _ _ _ _ _) (fd := _) (ks := [a, L + 1 + 1 + 1, L + 1 + 1, L + 1]) (rest' := [])
        (Post := fun g' v own' => v = .none ∧ own' = [(a, .lst (p ++ ((digs n i (y % 2 ^ (i * n))).map .int ++ (m₂ ++ q)))), (L + 1 + 1 + 1, .cell (some (.ref f))), (L + 1 + 1, .cell (some (.ref a))), (L + 1, .cell (some (.int n)))])
        D₆' (eFree (D₆'.cellAt (a := L + 1 + 1 + 1) (d := .ref f) (by (repeat' (first | exact List.Mem.head _ | refine' List.mem_append_right _ ?_ | refine' List.Mem.tail _ ?_)))) rfl rfl rfl (by decide) (by decide)) (s₆ _ _ (s₅ _ _ (s₄ _ _ (s₃ _ _ (s₂ _ _ (sb _ _ e)))))) rfl (aCons (eLoc D₆ rfl rfl rfl rfl (by decide)) (aCons (eLoc D₆ rfl rfl rfl rfl (by decide)) (aCons (eLoc D₆ rfl rfl rfl rfl (by decide)) aNil rfl) rfl) rfl) ⟨_, _, rfl⟩ (.take (.take (.take (.take .all)))) (by simp) ?spec ?k) rfl rfl
      case spec =>
        intro vs g₇ h₇ P₇ dv s₇
        obtain ⟨v₁, v₂, v₃, rfl, d₁, d₂, d₃⟩ := dv.three_inv
        exact ih i (by (first | lia | omega)) (R'.le (by (first | lia | omega)) (by (first | lia | omega))) P₇ (fun b o q => s₇ _ _ (s₆ _ _ (s₅ _ _ (s₄ _ _ (s₃ _ _ (s₂ _ _ (sb _ _ q))))))) d₁ d₂ d₃ hh0 (by (first | lia | omega)) (by rw [Nat.mul_comm n i]; exact Nat.mod_lt _ (Nat.pos_of_ne_zero (by simp))) (by (first | lia | omega)) hp l1 (by simp only [List.length_append] at *; (first | lia | omega))
      case k =>
        intro v₇ g₇ own₇ h₇ D₇ s₇ ⟨e1, e2⟩
        subst e1 e2
        refine ⟨rfl, ?_⟩
        have D₇ : St c _ g₇ [_, _, _, _] L' _ h₇ := D₇
        refine' sExpr (Wp_CallI (fo := fnM _ _ _ _ _ _ _ _ _) (fd := _) (ks := [a, L + 1 + 1 + 1, L + 1 + 1, L + 1]) (rest' := [])
          (Post := fun g' v own' => v = .none ∧ own' = [(a, .lst ((p ++ (digs n i (y % 2 ^ (i * n))).map .int) ++ ((digs n (k' + 1 - i) (y / 2 ^ (i * n))).map .int ++ q))), (L + 1 + 1 + 1, .cell (some (.ref f))), (L + 1 + 1, .cell (some (.ref a))), (L + 1, .cell (some (.int n)))])
          D₇ (eFree (D₇.cellAt (a := L + 1 + 1 + 1) (d := .ref f) (by (repeat' (first | exact List.Mem.head _ | refine' List.mem_append_right _ ?_ | refine' List.Mem.tail _ ?_)))) rfl rfl rfl (by decide) (by decide)) (s₇ _ _ (s₆ _ _ (s₅ _ _ (s₄ _ _ (s₃ _ _ (s₂ _ _ (sb _ _ e))))))) rfl (aCons (eLoc D₇ rfl rfl rfl rfl (by decide)) (aCons (eLoc D₇ rfl rfl rfl rfl (by decide)) (aCons (eLoc D₇ rfl rfl rfl rfl (by decide)) aNil rfl) rfl) rfl) ⟨_, _, rfl⟩ (.take (.take (.take (.take .all)))) (by simp) ?spec2 ?k2) rfl rfl
        case spec2 =>
          intro vs g₈ h₈ P₈ dv s₈
          obtain ⟨v₁, v₂, v₃, rfl, d₁, d₂, d₃⟩ := dv.three_inv
          have d₃ : Den g₈ v₃ (.int ((l + i + (k' + 1 - i) : Nat) : Int)) := by rw [show l + i + (k' + 1 - i) = l + (k' + 1) by (first | lia | omega)]; exact d₃
          rw [← List.append_assoc p] at P₈
          refine ih (k' + 1 - i) (by (first | lia | omega)) (R'.le (by (first | lia | omega)) (by (first | lia | omega))) P₈ (fun b o q => s₈ _ _ (s₇ _ _ (s₆ _ _ (s₅ _ _ (s₄ _ _ (s₃ _ _ (s₂ _ _ (sb _ _ q)))))))) d₁ d₂ d₃ (by (first | lia | omega)) (by (first | lia | omega)) ?_ (by (first | lia | omega)) (by rw [List.length_append, List.length_map, digs_len, hp]) l2 (by simp only [List.length_append, List.length_map, digs_len] at *; (first | lia | omega))
          rw [Nat.div_lt_iff_lt_mul (Nat.pos_of_ne_zero (by simp)), ← Nat.pow_add]
          refine Nat.lt_of_lt_of_le hy (Nat.pow_le_pow_right (by (first | lia | omega)) ?_)
          rw [Nat.mul_comm i n, ← Nat.mul_add]
          exact Nat.mul_le_mul_left _ (by (first | lia | omega))
        case k2 =>
          intro v₈ g₈ own₈ h₈ D₈ s₈ ⟨e1, e2⟩
          subst e1 e2
          refine ⟨rfl, sNil ⟨.none, g₈, _, rfl, D₈.toRet, rfl, ?_⟩⟩
          have ed : digs n (k' + 1) y = digs n i (y % 2 ^ (i * n)) ++ digs n (k' + 1 - i) (y / 2 ^ (i * n)) := by
            rw [Nat.mul_comm i n, digs_mod, ← digs_app, show i + (k' + 1 - i) = k' + 1 by (first | lia | omega)]
          rw [ed, List.map_append]
          simp
  have fin : ∀ {g₅ : FB} {h₅ : Heap}, St c ⟨g, h, [67]⟩ g₅ [(a, .lst ((digs n m x).map .int)), (L + 1 + 1 + 1, .cell (some (.ref f))), (L + 1 + 1, .cell (some (.ref a))), (L + 1, .cell (some (.int n))), (67, tabI2)] L [("a", .int x)] h₅ →
      ∃ v g' own', Except.ok (Flow.ret (.ref a)) = (.ok (.ret v) : Result) ∧ Ret ⟨g, h, [67]⟩ g' own' h₅ ∧ own' = [(67, tabI2)] ∧ Den g' v (.lst ((digs n m x).map .int)) := by
    intro g₅ h₅ D₅
    obtain ⟨o₆, i₆, D₆, s₆, e₆⟩ := D₅.freeze (.take .all) (D.none_of hna)
    obtain ⟨vs, nn, rfl, kv⟩ := i₆
    exact ⟨.ref a, _, _, rfl, D₆.tail.tail.tail.toRet, rfl, .lst e₆ (kv.mono s₆)⟩
  refine' sIf D₄ (bInt (i := x) ?cd1 rfl) ?cd2 ?cd3
  case cd1 => (repeat' (first | with_reducible exact eInt | ((with_reducible refine' eLoc (by assumption) ?_ ?_ ?_ ?_ ?_) <;> first | rfl | decide) | exact eGlob (St.bas (by assumption)) rfl (fun _ => .int _ _) rfl rfl rfl rfl | with_reducible refine' eMod ?_ ?_ ?_ | with_reducible refine' eDiv ?_ ?_ ?_ ?_ | with_reducible refine' eAdd ?_ ?_ | with_reducible refine' eNeg ?_ | with_reducible refine' eInv ?_ | with_reducible refine' bLt ?_ ?_ ?_ | with_reducible refine' bGt ?_ ?_ ?_ | with_reducible refine' bEq ?_ ?_ ?_ | with_reducible refine' eMin (Rm.hn (by assumption)) ?_ ?_ ?_ ⟨_, _, rfl⟩ | with_reducible exact aNil | with_reducible refine' aCons ?_ ?_ ?_ | ((with_reducible show _ ≠ (0 : Int)); first | decide | (first | lia | omega)) | ((with_reducible show Builtin.divisionGoesByPylong _ _ = false); first | exact PyProof.noPylong_of_log2 (by decide +kernel) | exact PyProof.noPylong_small (by (first | lia | omega))) | ((with_reducible show behindInMarks _ _ = false); rfl) | ((with_reducible show starEach _ _ = _); rfl) | ((with_reducible show List.any _ _ = _); rfl) | ((with_reducible show Ev _ _ (eval (Expr.Name _ _) _) _ _ _); (first | exact evGlob (St.bas (by assumption)) rfl rfl rfl rfl (by decide) | exact evBuilt (St.bas (by assumption)) rfl rfl (by decide) rfl rfl rfl rfl (by decide)))))
  case cd2 =>
    intro e0 g₅ h₅ D₅ s₅
    have hx0 : x ≠ 0 := by simpa using e0
    have hb0 : 0 < Builtin.Int.intBits (x : Int) := by
      apply Nat.pos_of_ne_zero
      intro q
      have := bits_lt x
      rw [q] at this; (first | lia | omega)
    have hm0 : 0 < m := by rw [← hD]; exact Nat.div_pos (by (first | lia | omega)) hn
    have hmn : Builtin.Int.intBits (x : Int) ≤ n * m := by
      have h1 := Nat.div_add_mod (Builtin.Int.intBits (x : Int) + n - 1) n
      rw [hD] at h1
      have h2 := Nat.mod_lt (Builtin.Int.intBits (x : Int) + n - 1) hn
      (first | lia | omega)
    refine' sExpr (Wp_CallI (fo := fnM _ _ _ _ _ _ _ _ _) (fd := _) (ks := [a, L + 1 + 1 + 1, L + 1 + 1, L + 1]) (rest' := [(67, tabI2)])
        (Post := fun g' v own' => v = .none ∧ own' = [(a, .lst ((digs n m x).map .int)), (L + 1 + 1 + 1, .cell (some (.ref f))), (L + 1 + 1, .cell (some (.ref a))), (L + 1, .cell (some (.int n)))])
        D₅ (eCell (D₅.cellAt (a := L + 1 + 1 + 1) (d := .ref f) (by (repeat' (first | exact List.Mem.head _ | refine' List.mem_append_right _ ?_ | refine' List.Mem.tail _ ?_)))) rfl rfl rfl (by decide)) (s₅ _ _ e) rfl (aCons (eLoc D₅ rfl rfl rfl rfl (by decide)) (aCons (eInt (i := 0)) (aCons (d := .int m) ?ce1 aNil rfl) rfl) rfl) ⟨_, _, rfl⟩ (.take (.take (.take (.take .all)))) (by simp) ?spec3 ?k3) rfl rfl
    case ce1 =>
      rw [show (m : Int) = ((List.replicate m (Dt.int 0)).length : Int) by rw [List.length_replicate]]
      refine' eLen ?cf1 (lR (eCell (D₅.cellAt (a := L + 1 + 1) (d := .ref a) (by (repeat' (first | exact List.Mem.head _ | refine' List.mem_append_right _ ?_ | refine' List.Mem.tail _ ?_)))) rfl rfl rfl (by decide)) (D₅.lstAt (by (repeat' (first | exact List.Mem.head _ | refine' List.mem_append_right _ ?_ | refine' List.Mem.tail _ ?_))))) rfl (by simp; (first | lia | omega))
      case cf1 => (first | exact evGlob (St.bas (by assumption)) rfl rfl rfl rfl (by decide) | exact evBuilt (St.bas (by assumption)) rfl rfl (by decide) rfl rfl rfl rfl (by decide))
    case spec3 =>
      intro vs g₈ h₈ P₈ dv s₈
      obtain ⟨v₁, v₂, v₃, rfl, d₁, d₂, d₃⟩ := dv.three_inv
      have d₃ : Den g₈ v₃ (.int ((0 + m : Nat) : Int)) := by rw [Nat.zero_add]; exact d₃
      have P₈ : Pre c g₈ [(a, .lst ([] ++ (List.replicate m (.int 0) ++ []))), (L + 1 + 1 + 1, .cell (some (.ref f))), (L + 1 + 1, .cell (some (.ref a))), (L + 1, .cell (some (.int n)))] h₈ := by
        rw [List.nil_append, List.append_nil]; exact P₈
      refine (inner m (R'.le (by (first | lia | omega)) (by (first | lia | omega))) P₈ (s₅.trans s₈) d₁ d₂ d₃ hm0 (by (first | lia | omega)) (Nat.lt_of_lt_of_le (bits_lt x) (Nat.pow_le_pow_right (by (first | lia | omega)) hmn)) hx rfl (by simp) (by simp; (first | lia | omega))).mono fun r' h' ⟨v, g', own', e1, R1, e2, e3⟩ => ⟨v, g', own', e1, R1, e2, ?_⟩
      rw [e3, List.nil_append, List.append_nil]
    case k3 =>
      intro v₇ g₇ own₇ h₇ D₇ s₇ ⟨e1, e2⟩
      subst e1 e2
      refine ⟨rfl, sReturn ?_⟩
      refine (eCell (D₇.cellAt (a := L + 1 + 1) (d := .ref a) (.tail _ (.tail _ (.head _)))) rfl rfl rfl (by decide)).wp D₇ fun v g₈ h₈ D₈ G₈ dv => ?_
      cases dv.ref_inv
      exact fin D₈
  case cd3 =>
    intro e0 g₅ h₅ D₅ s₅
    have hx0 : x = 0 := by simpa using e0
    subst hx0
    have hm0 : m = 0 := by rw [← hD]; exact Nat.div_eq_of_lt (by show 0 + n - 1 < n; (first | lia | omega))
    subst hm0
    refine sReturn ?_
    refine (eCell (D₅.cellAt (a := L + 1 + 1) (d := .ref a) (by (repeat' (first | exact List.Mem.head _ | refine' List.mem_append_right _ ?_ | refine' List.Mem.tail _ ?_)))) rfl rfl rfl (by decide)).wp D₅ fun v g₈ h₈ D₈ G₈ dv => ?_
    cases dv.ref_inv
    exact fin D₈
end
noncomputable abbrev tabD2 : OC := OC.tab ⟨67, 4, 72, 55⟩ "_digits2int.<locals>.inner"
section
variable {c : GC}
theorem d2i_spec {A : Around} {g : FB} {h : Heap} {v w : Value} {ds : List Nat} {n : Nat} (R : Rm A 13 180) (P : Pre c g [(74, tabD2)] h) (hv : Den g v (.lst (nats ds))) (hw : Den g w (.int n))
    (hx : und n ds < 2 ^ 12) (hn2 : n ≤ 12) (hD : ds.length ≤ 12) :
    Cd c A (.call (.ref 79) ⟨[v, w], []⟩) (fun r h' => ∃ v g' own', r = .ok (.ret v) ∧ Ret ⟨g, h, [74]⟩ g' own' h' ∧ own' = [(74, tabD2)] ∧ Den g' v (.int (und n ds))) h := by
  refine enterC (binds := [("digits", v), ("n", w)]) (bd := []) (dd := 12) (uu := 177) (fun L => [(L + 1 + 1 + 1, .cell none), (L + 1 + 1, .cell (some (.int n))), (L + 1, .cell (some (.lst (nats ds))))]) P rfl rfl R (fun s hs => .of_eq rfl) ?hkind ?hnd rfl rfl rfl ?hled ?hb fun L h₁ D F R' => ?_
  case hkind =>
    intro k y hy
    rcases List.mem_cons.mp hy with rfl | hy
    · exact .inr ⟨rfl, rfl⟩
    · cases List.mem_singleton.mp hy
      exact .inr ⟨rfl, rfl⟩
  case hnd => decide
  case hled =>
    intro L
    exact .none rfl (.some (v := w) rfl hw (.some (v := v) rfl hv .nil))
  case hb =>
    intro L y d e
    simp at e
  have D : St c _ g [(L + 1 + 1 + 1, .cell none), (L + 1 + 1, .cell (some (.int n))), (L + 1, .cell (some (.lst (nats ds)))), (74, tabD2)] L _ h₁ := D
  refine sDefC (P := 74) (ow := fun f => [(L + 1 + 1 + 1, .cell (some (.ref f))), (L + 1 + 1, .cell (some (.int n))), (L + 1, .cell (some (.lst (nats ds)))), (74, tabD2)]) D F rfl (codeHd_of_K c.X rfl) (.tail _ (.tail _ (.tail _ (.head _)))) rfl rfl rfl rfl rfl rfl rfl (fun f => .head) fun f c' ctv g' h' D₄ s e K hnf => ?_
  have inner : ∀ (k : Nat) {A : Around} {g₁ : FB} {h : Heap} {v w : Value} {l : Nat}, Rm A k (3 * k + 50) → Bas c g₁ h → Sub g' g₁ → CellAt g₁ h (L + 1 + 1 + 1) (.ref f) → CellAt g₁ h (L + 1 + 1) (.int n) → CellAt g₁ h (L + 1) (.lst (nats ds)) →
      Den g₁ v (.int l) → Den g₁ w (.int (l + k : Nat)) → 0 < k → l + k ≤ ds.length →
      Cd c A (.call (.ref f) ⟨[v, w], []⟩) (fun r h' => ∃ v g'', r = .ok (.ret v) ∧ Gr g₁ h g'' h' ∧ Den g'' v (.int (und n ((ds.drop l).take k)))) h := by
    clear D D₄ R R' F
    intro k
    induction k using Nat.strongRecOn with
    | _ k ih =>
    intro A g₁ h v w l R B sb ci cn cd hv hw hk0 hk
    obtain ⟨k', rfl⟩ : ∃ k', k = k' + 1 := ⟨k - 1, by (first | lia | omega)⟩
    refine enterI (dd := k') (uu := 3 * k' + 50) (binds := [("L", v), ("R", w)]) B.pre (sb _ _ e) (K.mono sb) (R.le (by (first | lia | omega)) (by (first | lia | omega))) (fun s hs => .of_eq rfl) (locs rfl) (by decide) rfl rfl rfl (lookup2 hv hw) fun L' h₁ D F R' => ?_
    refine' sIf D (b := ((l : Int) + 1 == ((l + (k' + 1) : Nat) : Int))) ?cb1 ?cb2 ?cb3
    case cb1 => (repeat' (first | with_reducible exact eInt | ((with_reducible refine' eLoc (by assumption) ?_ ?_ ?_ ?_ ?_) <;> first | rfl | decide) | exact eGlob (St.bas (by assumption)) rfl (fun _ => .int _ _) rfl rfl rfl rfl | with_reducible refine' eMod ?_ ?_ ?_ | with_reducible refine' eDiv ?_ ?_ ?_ ?_ | with_reducible refine' eAdd ?_ ?_ | with_reducible refine' eNeg ?_ | with_reducible refine' eInv ?_ | with_reducible refine' bLt ?_ ?_ ?_ | with_reducible refine' bGt ?_ ?_ ?_ | with_reducible refine' bEq ?_ ?_ ?_ | with_reducible refine' eMin (Rm.hn (by assumption)) ?_ ?_ ?_ ⟨_, _, rfl⟩ | with_reducible exact aNil | with_reducible refine' aCons ?_ ?_ ?_ | ((with_reducible show _ ≠ (0 : Int)); first | decide | (first | lia | omega)) | ((with_reducible show Builtin.divisionGoesByPylong _ _ = false); first | exact PyProof.noPylong_of_log2 (by decide +kernel) | exact PyProof.noPylong_small (by (first | lia | omega))) | ((with_reducible show behindInMarks _ _ = false); rfl) | ((with_reducible show starEach _ _ = _); rfl) | ((with_reducible show List.any _ _ = _); rfl) | ((with_reducible show Ev _ _ (eval (Expr.Name _ _) _) _ _ _); (first | exact evGlob (St.bas (by assumption)) rfl rfl rfl rfl (by decide) | exact evBuilt (St.bas (by assumption)) rfl rfl (by decide) rfl rfl rfl rfl (by decide)))))
    case cb2 =>
      intro e' g₂ h₂ D₂ s₂
      have : k' = 0 := by have := eq_of_beq e'; (first | lia | omega)
      subst this
      have G₂ := D₂.toRet.gr
      refine' sReturnD D₂ (eIdx (d := .int (und n ((ds.drop l).take (0 + 1)))) (lD (eFree (cd.gr G₂) rfl rfl rfl (by decide) (by decide))) (eLoc D₂ rfl rfl rfl rfl (by decide)) (by (first | lia | omega)) ?_ (by simp; (first | lia | omega)) fun _ _ => rfl) fun v g₅ h₆ D₅ sb' p' => ⟨v, g₅, rfl, D₅.toRet.gr, p'⟩
      have hl : l < ds.length := by (first | lia | omega)
      rw [Int.toNat_natCast, nats_at hl, List.drop_eq_getElem_cons hl, List.take_succ_cons, List.take_zero, und, und, List.getD_eq_getElem?_getD, List.getElem?_eq_getElem hl]; rfl
    case cb3 =>
      intro e' g₂ h₂ D₂ s₂
      have hk2 : 0 < k' := by
        apply Nat.pos_of_ne_zero
        intro q; subst q
        have : ((l : Int) + 1 == ((l + (0 + 1) : Nat) : Int)) = true := by simp
        rw [this] at e'; cases e'
      have hh : (k' + 1) / 2 ≤ k' := by (first | lia | omega)
      have hh0 : 0 < (k' + 1) / 2 := by (first | lia | omega)
      generalize hi : (k' + 1) / 2 = i at *
      have hs1 : i * n ≤ 144 := Nat.le_trans (Nat.mul_le_mul (show i ≤ 12 by (first | lia | omega)) hn2) (by decide)
      refine' sAssign (d := .int ((l + i : Nat) : Int)) D₂ F ?cc1 rfl rfl fun g₃ h₃ D₃ s₃ => ?_
      case cc1 =>
        rw [show ((l + i : Nat) : Int) = ((l : Int) + ((l + (k' + 1) : Nat) : Int)).fdiv (2 ^ (1 : Int).toNat) by
          rw [show (2 : Int) ^ (1 : Int).toNat = ((2 : Nat) : Int) by decide, show (l : Int) + ((l + (k' + 1) : Nat) : Int) = ((l + (l + (k' + 1)) : Nat) : Int) by (first | lia | omega), fdiv_nat]; (first | lia | omega)]
        exact eShr (eAdd (eLoc D₂ rfl rfl rfl rfl (by decide)) (eLoc D₂ rfl rfl rfl rfl (by decide))) eInt (by decide)
      refine' sAssign (d := .int ((i * n : Nat) : Int)) D₃ F ?cc2 rfl rfl fun g₄ h₄ D₄ s₄ => ?_
      case cc2 =>
        rw [show ((i * n : Nat) : Int) = (((l + i : Nat) : Int) - (l : Int)) * (n : Int) by rw [Int.natCast_mul]; congr 1; (first | lia | omega)]
        refine eMul (eSub (eLoc D₃ rfl rfl rfl rfl (by decide)) (eLoc D₃ rfl rfl rfl rfl (by decide))) (eFree (cn.gr D₃.toRet.gr) rfl rfl rfl (by decide) (by decide)) ?_
        rw [show ((l + i : Nat) : Int) - (l : Int) = i by (first | lia | omega)]
        mul_fits
      have G₄ := D₄.toRet.gr
      have e₄ := G₄.sub _ _ (sb _ _ e)
      have hu : und n ((ds.drop l).take (k' + 1)) = und n ((ds.drop (l + i)).take (k' + 1 - i)) * 2 ^ (i * n) + und n ((ds.drop l).take i) := by
        have e1 : (ds.drop l).take (k' + 1) = (ds.drop l).take i ++ (ds.drop (l + i)).take (k' + 1 - i) := by
          rw [← List.drop_drop, ← List.take_add, show i + (k' + 1 - i) = k' + 1 by (first | lia | omega)]
        rw [e1, und_app, List.length_take, List.length_drop, Nat.min_eq_left (by (first | lia | omega)), Nat.mul_comm n i, Nat.mul_comm (2 ^ (i * n))]
        (first | lia | omega)
      have hu2 := und_sub n ds (l + i) (k' + 1 - i)
      refine' sReturnD (d := .int (und n ((ds.drop l).take (k' + 1)))) D₄ ?cd1 fun v g₅ h₆ D₅ sb' p' => ⟨v, g₅, rfl, D₅.toRet.gr, p'⟩
      case cd1 =>
        rw [hu, show ((und n ((ds.drop (l + i)).take (k' + 1 - i)) * 2 ^ (i * n) + und n ((ds.drop l).take i) : Nat) : Int) = (und n ((ds.drop (l + i)).take (k' + 1 - i)) : Int) * 2 ^ ((i * n : Nat) : Int).toNat + (und n ((ds.drop l).take i) : Int) by
          rw [Int.toNat_natCast, Int.natCast_add, Int.natCast_mul, Int.natCast_pow]; try rfl]
        refine eAdd (eShl ?_ (eLoc D₄ rfl rfl rfl rfl (by decide)) (by (first | lia | omega)) (by (first | lia | omega)) (by rw [Int.natAbs_natCast]; (first | lia | omega))) ?_
        · refine' eCallI (fo := fnM _ _ _ _ _ _ _ _ _) (fd := _) (eFree (ci.gr G₄) rfl rfl rfl (by decide) (by decide)) e₄ rfl (aCons (eLoc D₄ rfl rfl rfl rfl (by decide)) (aCons (eLoc D₄ rfl rfl rfl rfl (by decide)) aNil rfl) rfl) ⟨_, _, rfl⟩ fun vs g₅ h₅ G₅ dv => ?_
          obtain ⟨v₁, v₂, rfl, d₁, d₂⟩ := dv.two_inv
          have d₂ : Den g₅ v₂ (.int ((l + i + (k' + 1 - i) : Nat) : Int)) := by rw [show l + i + (k' + 1 - i) = l + (k' + 1) by (first | lia | omega)]; exact d₂
          have G := G₄.trans G₅
          exact ih (k' + 1 - i) (by (first | lia | omega)) (R'.le (by (first | lia | omega)) (by (first | lia | omega))) (B.gr G) (sb.trans G.sub) (ci.gr G) (cn.gr G) (cd.gr G) d₁ d₂ (by (first | lia | omega)) (by (first | lia | omega))
        · refine' eCallI (fo := fnM _ _ _ _ _ _ _ _ _) (fd := _) (eFree (ci.gr G₄) rfl rfl rfl (by decide) (by decide)) e₄ rfl (aCons (eLoc D₄ rfl rfl rfl rfl (by decide)) (aCons (eLoc D₄ rfl rfl rfl rfl (by decide)) aNil rfl) rfl) ⟨_, _, rfl⟩ fun vs g₅ h₅ G₅ dv => ?_
          obtain ⟨v₁, v₂, rfl, d₁, d₂⟩ := dv.two_inv
          have G := G₄.trans G₅
          exact ih i (by (first | lia | omega)) (R'.le (by (first | lia | omega)) (by (first | lia | omega))) (B.gr G) (sb.trans G.sub) (ci.gr G) (cn.gr G) (cd.gr G) d₁ d₂ (by (first | lia | omega)) (by (first | lia | omega))
  have cdg := D₄.cellAt (a := L + 1) (d := .lst (nats ds)) (.tail _ (.tail _ (.head _)))
  refine' sReturnD (d := .int (und n ds)) D₄ (eIf (bLst (lD (eCell cdg rfl rfl rfl (by decide))) (by simp; (first | lia | omega)) rfl) ?ce1 ?ce2) fun v g₅ h₆ D₅ sb' p' => ⟨v, g₅, _, rfl, D₅.tail.tail.tail.toRet, rfl, p'⟩
  case ce1 =>
    intro e0
    have hd : 0 < ds.length := by cases ds <;> simp at e0 ⊢
    refine' eCallI (fo := fnM _ _ _ _ _ _ _ _ _) (fd := _) (ds := [.int 0, .int ds.length]) (eCell (D₄.cellAt (a := L + 1 + 1 + 1) (d := .ref f) (.head _)) rfl rfl rfl (by decide)) e rfl (aCons eInt (aCons ?cf1 aNil rfl) rfl) ⟨_, _, rfl⟩ fun vs g₅ h₅ G₅ dv => ?_
    case cf1 =>
      rw [show (ds.length : Int) = ((nats ds).length : Int) by simp]
      refine' eLen ?cg1 (lD (eCell cdg rfl rfl rfl (by decide))) rfl (by simp; (first | lia | omega))
      case cg1 => (first | exact evGlob (St.bas (by assumption)) rfl rfl rfl rfl (by decide) | exact evBuilt (St.bas (by assumption)) rfl rfl (by decide) rfl rfl rfl rfl (by decide))
    obtain ⟨v₁, v₂, rfl, d₁, d₂⟩ := dv.two_inv
    have d₂ : Den g₅ v₂ (.int ((0 + ds.length : Nat) : Int)) := by rw [Nat.zero_add]; exact d₂
    refine (inner (l := 0) ds.length (R'.le (by (first | lia | omega)) (by (first | lia | omega))) (D₄.bas.gr G₅) G₅.sub ((D₄.cellAt (a := L + 1 + 1 + 1) (d := .ref f) (.head _)).gr G₅) ((D₄.cellAt (a := L + 1 + 1) (d := .int n) (.tail _ (.head _))).gr G₅) (cdg.gr G₅) d₁ d₂ hd (by (first | lia | omega))).mono fun r' h'' ⟨v, g₆, e1, G₆, p⟩ => ⟨v, g₆, e1, G₆, ?_⟩
    rw [List.drop_zero, List.take_length] at p
    exact p
  case ce2 =>
    intro e0
    have hd : ds = [] := by cases ds <;> simp at e0 ⊢
    subst hd
    exact eInt
end
theorem digs_at (n : Nat) : ∀ k x j, j < k → (digs n k x).getD j 0 = ((x / 2 ^ (n * j) % 2 ^ n : Nat) : Int)
  | k + 1, x, 0, _ => by simp [digs]
  | k + 1, x, j + 1, h => by
    rw [digs, List.getD_cons_succ, digs_at n k (x / 2 ^ n) j (by (first | lia | omega)), Nat.div_div_eq_div_mul, ← Nat.pow_add, show n + n * j = n * (j + 1) by rw [Nat.mul_succ]; (first | lia | omega)]
section
variable {c : GC}
theorem d21_spec {A : Around} {g : FB} {h : Heap} {v w u : Value} {t b n : Nat} (R : Rm A 1 103) (P : Pre c g [] h) (hv : Den g v (.int t)) (hw : Den g w (.int b)) (hu : Den g u (.int n))
    (ht : t < 2 ^ 30) (hb : 0 < b) (hb2 : b < 2 ^ 12) :
    Cd c A (.call (.ref 58) ⟨[v, w, u], []⟩) (fun r h' => ∃ v g', r = .ok (.ret v) ∧ Gr g h g' h' ∧ Den g' v (.tup [.int (t / b : Nat), .int (t % b : Nat)])) h := by
  refine enterD (dd := 0) (uu := 100) (binds := [("a", v), ("b", w), ("n", u)]) P rfl rfl R (fun s hs => .of_eq rfl) (locs rfl) (by decide) rfl rfl rfl (lookup3 hv hw hu) fun L h₁ D F R' => ?_
  have hbt := bits_le ht
  refine' sIf D (b := decide (((Builtin.Int.intBits (t : Int) : Nat) : Int) - (n : Int) ≤ 4000)) (bLe (eSub (eBitLen (eLoc D rfl rfl rfl rfl (by decide)) rfl rfl) (eLoc D rfl rfl rfl rfl (by decide))) ?ca1 rfl) ?ca2 ?ca3
  case ca1 => (repeat' (first | with_reducible exact eInt | ((with_reducible refine' eLoc (by assumption) ?_ ?_ ?_ ?_ ?_) <;> first | rfl | decide) | exact eGlob (St.bas (by assumption)) rfl (fun _ => .int _ _) rfl rfl rfl rfl | with_reducible refine' eMod ?_ ?_ ?_ | with_reducible refine' eDiv ?_ ?_ ?_ ?_ | with_reducible refine' eAdd ?_ ?_ | with_reducible refine' eNeg ?_ | with_reducible refine' eInv ?_ | with_reducible refine' bLt ?_ ?_ ?_ | with_reducible refine' bGt ?_ ?_ ?_ | with_reducible refine' bEq ?_ ?_ ?_ | with_reducible refine' eMin (Rm.hn (by assumption)) ?_ ?_ ?_ ⟨_, _, rfl⟩ | with_reducible exact aNil | with_reducible refine' aCons ?_ ?_ ?_ | ((with_reducible show _ ≠ (0 : Int)); first | decide | (first | lia | omega)) | ((with_reducible show Builtin.divisionGoesByPylong _ _ = false); first | exact PyProof.noPylong_of_log2 (by decide +kernel) | exact PyProof.noPylong_small (by (first | lia | omega))) | ((with_reducible show behindInMarks _ _ = false); rfl) | ((with_reducible show starEach _ _ = _); rfl) | ((with_reducible show List.any _ _ = _); rfl) | ((with_reducible show Ev _ _ (eval (Expr.Name _ _) _) _ _ _); (first | exact evGlob (St.bas (by assumption)) rfl rfl rfl rfl (by decide) | exact evBuilt (St.bas (by assumption)) rfl rfl (by decide) rfl rfl rfl rfl (by decide)))))
  case ca2 =>
    intro e g₂ h₂ D₂ s₂
    refine' sReturnD D₂ ?cb1 fun v g₅ h₆ D₅ sb' p' => ⟨v, g₅, rfl, D₅.toRet.gr, p'⟩
    case cb1 =>
      rw [← fdiv_nat, ← fmod_nat]
      refine' eDivmod ?cc1 (aCons (eLoc D₂ rfl rfl rfl rfl (by decide)) (aCons (eLoc D₂ rfl rfl rfl rfl (by decide)) aNil rfl) rfl) (by (first | lia | omega)) (PyProof.noPylong_small (by (first | lia | omega))) rfl ⟨_, _, rfl⟩
      case cc1 => (first | exact evGlob (St.bas (by assumption)) rfl rfl rfl rfl (by decide) | exact evBuilt (St.bas (by assumption)) rfl rfl (by decide) rfl rfl rfl rfl (by decide))
  case ca3 => intro e; exfalso; have := of_decide_eq_false e; (first | lia | omega)
theorem dvp_spec {A : Around} {g : FB} {h : Heap} {v w : Value} {a b : Nat} (R : Rm A 15 200) (P : Pre c g [(67, tabI2), (74, tabD2)] h) (hv : Den g v (.int a)) (hw : Den g w (.int b))
    (ha : a < 2 ^ 12) (hb : 0 < b) (hb2 : b < 2 ^ 12) :
    Cd c A (.call (.ref 86) ⟨[v, w], []⟩) (fun r h' => ∃ v g' own', r = .ok (.ret v) ∧ Ret ⟨g, h, [67, 74]⟩ g' own' h' ∧ own' = [(67, tabI2), (74, tabD2)] ∧ Den g' v (.tup [.int (a / b : Nat), .int (a % b : Nat)])) h := by
  refine enterD (dd := 14) (uu := 197) (binds := [("a", v), ("b", w)]) P rfl rfl R (fun s hs => .of_eq rfl) (locs rfl) (by decide) rfl rfl rfl (lookup2 hv hw) fun L h₁ D F R' => ?_
  have hbits := bits_le hb2
  have hblt := bits_lt b
  refine' sAssign (d := .int (Builtin.Int.intBits (b : Int) : Nat)) D F (eBitLen (eLoc D rfl rfl rfl rfl (by decide)) rfl rfl) rfl rfl fun g₂ h₂ D₂ s₂ => ?_
  have hn0 : 0 < Builtin.Int.intBits (b : Int) := by
    apply Nat.pos_of_ne_zero
    intro q
    rw [q] at hblt; (first | lia | omega)
  generalize hn : Builtin.Int.intBits (b : Int) = n at *
  have hm1 : ∃ m, (Builtin.Int.intBits (a : Int) + n - 1) / n = m := ⟨_, rfl⟩
  obtain ⟨m, hm⟩ := hm1
  have hmn : Builtin.Int.intBits (a : Int) ≤ n * m := by
    have h1 := Nat.div_add_mod (Builtin.Int.intBits (a : Int) + n - 1) n
    rw [hm] at h1
    have h2 := Nat.mod_lt (Builtin.Int.intBits (a : Int) + n - 1) hn0
    (first | lia | omega)
  have ham : a < 2 ^ (n * m) := Nat.lt_of_lt_of_le (bits_lt a) (Nat.pow_le_pow_right (by (first | lia | omega)) hmn)
  have hm12 : m ≤ 12 := by
    have h1 := bits_le ha
    have h3 := Nat.div_le_div_right (c := n) (show Builtin.Int.intBits (a : Int) + n - 1 ≤ 12 + n - 1 by (first | lia | omega))
    have h4 : (12 + n - 1) / n ≤ 12 := by
      apply Nat.le_of_lt_succ
      rw [Nat.div_lt_iff_lt_mul hn0]
      have : (12 + 1) * n = 12 * n + n := by (first | lia | omega)
      have : 12 ≤ 12 * n := by (first | lia | omega)
      (first | lia | omega)
    (first | lia | omega)
  refine' sAssignW (Wp_CallM (f := 72) (ks := [67]) (Post := fun g' v own' => own' = [(67, tabI2)] ∧ Den g' v (.lst ((digs n m a).map .int))) D₂ ?ca1 (c.X _ _ rfl) rfl (aCons (eLoc D₂ rfl rfl rfl rfl (by decide)) (aCons (eLoc D₂ rfl rfl rfl rfl (by decide)) aNil rfl) rfl) ⟨_, _, rfl⟩ (.take .all) (by simp) ?spec ?k) rfl
  case ca1 => (first | exact evGlob (St.bas (by assumption)) rfl rfl rfl rfl (by decide) | exact evBuilt (St.bas (by assumption)) rfl rfl (by decide) rfl rfl rfl rfl (by decide))
  case spec =>
    intro vs g₁ h₁ P₁ dv sb
    obtain ⟨v₁, v₂, rfl, d₁, d₂⟩ := dv.two_inv
    exact i2d_spec (R'.le (by (first | lia | omega)) (by (first | lia | omega))) P₁ d₁ d₂ ha hn0 (by (first | lia | omega)) hm
  case k =>
  intro v₃ g₃ own₃ h₃ D₃ s₃ ⟨e3, dv₃⟩
  subst e3
  refine Wp_storeL D₃ dv₃ F rfl fun h₄ D₄ => ?_
  refine sAssign D₄ F (eInt (i := 0)) rfl rfl fun g₅ h₅ D₅ s₅ => ?_
  refine sAssignN (ds := []) D₅ F (eList aNil (by decide)) rfl rfl fun qa g₆ h₆ D₆' hqa s₆ => ?_
  have D₆ := D₆'.weakL (loc' := [("q_digits", .ref qa), ("r", .int 0), ("a_digits", .lst ((digs n m a).map .int)), ("n", .int n), ("b", .int b)]) ⟨rfl, rfl, rfl, rfl, rfl, trivial⟩
  have hlen : ((digs n m a).map Dt.int).length = m := by rw [List.length_map, digs_len]
  refine sForS (srcRev D₆ R'.hn ?cb1 (eLoc D₆ rfl rfl rfl rfl (by decide)) rfl fun _ _ => rfl) (fun _ => rfl)
    (fun i _ own loc => ∃ qs : List Nat, qs.length = i ∧ und n qs.reverse = a / 2 ^ (n * (m - i)) / b ∧ own = [(qa, .lst (nats qs)), (67, tabI2), (74, tabD2)] ∧ loc = ([("q_digits", .ref qa), ("r", .int ((a / 2 ^ (n * (m - i)) % b : Nat) : Int)), ("a_digits", .lst ((digs n m a).map .int)), ("n", .int n), ("b", .int b)] : Loc)) ?cb2 ?cb3 ?cb4
  case cb1 => (first | exact evGlob (St.bas (by assumption)) rfl rfl rfl rfl (by decide) | exact evBuilt (St.bas (by assumption)) rfl rfl (by decide) rfl rfl rfl rfl (by decide))
  case cb2 =>
    intro g' s'
    have : a / 2 ^ (n * (m - 0)) = 0 := Nat.div_eq_of_lt ham
    rw [this, Nat.zero_div, Nat.zero_mod]
    exact ⟨[], rfl, rfl, rfl, rfl⟩
  case cb3 =>
    rintro i g₇ g₈ own loc h₇ u pre Qt hi ⟨qs, hqs, hund, rfl, rfl⟩ s₇ s₈ D₈ du kN _
    rw [hlen] at hi du
    have hdi : ((digs n m a).map Dt.int).getD (m - 1 - i) .none = .int ((a / 2 ^ (n * (m - 1 - i)) % 2 ^ n : Nat) : Int) := by
      rw [← digs_at n m a (m - 1 - i) (by (first | lia | omega))]
      exact getD_of (ints_at (by rw [digs_len]; (first | lia | omega)))
    rw [hdi] at du
    refine Wp_asgL D₈ du F rfl fun h₉ D₉ => ?_
    have hV : a / 2 ^ (n * (m - (i + 1))) = a / 2 ^ (n * (m - i)) * 2 ^ n + a / 2 ^ (n * (m - 1 - i)) % 2 ^ n := by
      rw [show m - i = m - 1 - i + 1 by (first | lia | omega), show m - (i + 1) = m - 1 - i by (first | lia | omega), Nat.mul_succ, Nat.pow_add, ← Nat.div_div_eq_div_mul]
      have := Nat.div_add_mod (a / 2 ^ (n * (m - 1 - i))) (2 ^ n)
      rw [Nat.mul_comm] at this
      (first | lia | omega)
    generalize hVi : a / 2 ^ (n * (m - i)) = V at *
    have hdlt : a / 2 ^ (n * (m - 1 - i)) % 2 ^ n < 2 ^ n := Nat.mod_lt _ (Nat.pos_of_ne_zero (by simp))
    generalize a / 2 ^ (n * (m - 1 - i)) % 2 ^ n = d at *
    have hVb := Nat.mod_lt V hb
    have h2n : 2 ^ n ≤ 2 ^ 12 := Nat.pow_le_pow_right (by (first | lia | omega)) hbits
    have htb : V % b * 2 ^ n ≤ 2 ^ 12 * 2 ^ 12 := Nat.mul_le_mul (by (first | lia | omega)) h2n
    have hq : (V * 2 ^ n + d) / b = V / b * 2 ^ n + (V % b * 2 ^ n + d) / b := by
      have e := Nat.div_add_mod V b
      have e2 : V * 2 ^ n + d = (V % b * 2 ^ n + d) + b * (V / b * 2 ^ n) := by
        conv => lhs; rw [← e]
        rw [Nat.add_mul, Nat.mul_assoc]; (first | lia | omega)
      rw [e2, Nat.add_mul_div_left _ _ hb]; (first | lia | omega)
    have hr : (V * 2 ^ n + d) % b = (V % b * 2 ^ n + d) % b := by
      have e := Nat.div_add_mod V b
      have e2 : V * 2 ^ n + d = (V % b * 2 ^ n + d) + b * (V / b * 2 ^ n) := by
        conv => lhs; rw [← e]
        rw [Nat.add_mul, Nat.mul_assoc]; (first | lia | omega)
      rw [e2, Nat.add_mul_mod_self_left]
    refine' sAsgT2 D₉ F R'.hn (d := .int ((V % b * 2 ^ n + d) / b : Nat)) (e := .int ((V % b * 2 ^ n + d) % b : Nat)) (eCallF (f := 58) D₉.bas ?cc1 (c.X _ _ rfl) rfl (aCons (d := .int (V % b * 2 ^ n + d : Nat)) ?cc2 (aCons (eLoc D₉ rfl rfl rfl rfl (by decide)) (aCons (eLoc D₉ rfl rfl rfl rfl (by decide)) aNil rfl) rfl) rfl) ⟨_, _, rfl⟩ ?cc3) rfl rfl rfl rfl fun g₁₀ h₁₀ D₁₀ s₁₀ => ?_
    case cc1 => (first | exact evGlob (St.bas (by assumption)) rfl rfl rfl rfl (by decide) | exact evBuilt (St.bas (by assumption)) rfl rfl (by decide) rfl rfl rfl rfl (by decide))
    case cc2 =>
      rw [show ((V % b * 2 ^ n + d : Nat) : Int) = ((V % b : Nat) : Int) * 2 ^ ((n : Int)).toNat + (d : Int) by rw [Int.toNat_natCast, Int.natCast_add, Int.natCast_mul, Int.natCast_pow]; try rfl]
      exact eAdd (eShl (eLoc D₉ rfl rfl rfl rfl (by decide)) (eLoc D₉ rfl rfl rfl rfl (by decide)) (by (first | lia | omega)) (by (first | lia | omega)) (by rw [Int.natAbs_natCast]; (first | lia | omega))) (eLoc D₉ rfl rfl rfl rfl (by decide))
    case cc3 =>
      intro vs g' h' G' dv
      obtain ⟨v₁, v₂, v₃, rfl, d₁, d₂, d₃⟩ := dv.three_inv
      exact d21_spec (R'.le (by (first | lia | omega)) (by (first | lia | omega))) (D₉.bas.gr G').pre d₁ d₂ d₃ (by (first | lia | omega)) hb hb2
    refine' sAppend (d := .int ((V % b * 2 ^ n + d) / b : Nat)) D₁₀ (eLoc D₁₀ rfl rfl rfl rfl (by decide)) (eLoc D₁₀ rfl rfl rfl rfl (by decide)) (Up.app .head) (by simp only [List.length_map, sizeLine_eq]; (first | lia | omega)) rfl rfl rfl rfl rfl fun g₁₁ h₁₁ D₁₁ s₁₁ => ?_
    refine sNil (kN g₁₁ _ _ _ ⟨qs ++ [(V % b * 2 ^ n + d) / b], by simp [hqs], ?_, ?_, rfl⟩ (s₁₀.trans s₁₁) (D₁₁.weakL ⟨rfl, ?_, rfl, rfl, rfl, trivial⟩))
    · rw [List.reverse_append, List.reverse_singleton, List.singleton_append, und, hund, hV, hq, Nat.mul_comm (2 ^ n)]; (first | lia | omega)
    · simp [nats]
    · rw [hV, hr]; rfl
  case cb4 =>
    rintro g₇ own loc h₇ ⟨qs, hqs, hund, rfl, rfl⟩ s₇ D₇
    rw [hlen] at hqs hund D₇
    rw [Nat.sub_self, Nat.mul_zero, Nat.pow_zero, Nat.div_one] at hund D₇
    have D₇ : St c _ g₇ [(qa, .lst (nats qs)), (67, tabI2), (74, tabD2)] L _ h₇ := D₇
    refine' sReverse D₇ (eLoc D₇ rfl rfl rfl rfl (by decide)) .head (by simp only [List.length_map, sizeLine_eq]; (first | lia | omega)) rfl rfl rfl rfl fun g₈ h₈ D₈ s₈ => ?_
    rw [← List.map_reverse] at D₈
    obtain ⟨g₉, D₉, s₉⟩ := D₈.freezeL (x := "q_digits") (.take .all) hqa rfl
    refine' sAssignW (Wp_CallM (f := 79) (ks := [74]) (Post := fun g' v own' => own' = [(74, tabD2)] ∧ Den g' v (.int (und n qs.reverse))) D₉ ?ce1 (c.X _ _ rfl) rfl (aCons (eLoc D₉ rfl rfl rfl rfl (by decide)) (aCons (eLoc D₉ rfl rfl rfl rfl (by decide)) aNil rfl) rfl) ⟨_, _, rfl⟩ (.skip (.take .all)) (by simp) ?spec2 ?k2) rfl
    case ce1 => (first | exact evGlob (St.bas (by assumption)) rfl rfl rfl rfl (by decide) | exact evBuilt (St.bas (by assumption)) rfl rfl (by decide) rfl rfl rfl rfl (by decide))
    case spec2 =>
      intro vs g₁ h₁ P₁ dv sb
      obtain ⟨v₁, v₂, rfl, d₁, d₂⟩ := dv.two_inv
      refine d2i_spec (R'.le (by (first | lia | omega)) (by (first | lia | omega))) P₁ d₁ d₂ ?_ (by (first | lia | omega)) (by rw [List.length_reverse]; (first | lia | omega))
      rw [hund]
      exact Nat.lt_of_le_of_lt (Nat.div_le_self _ _) ha
    case k2 =>
      intro v₁₀ g₁₀ own₁₀ h₁₀ D₁₀ s₁₀ ⟨e10, dv₁₀⟩
      subst e10
      rw [hund] at dv₁₀
      have D₁₀ : St c _ g₁₀ [(74, tabD2), (67, tabI2)] L _ h₁₀ := D₁₀
      refine Wp_storeL (D₁₀.perm (.swap _ _ _)) dv₁₀ F rfl fun h₁₁ D₁₁ => ?_
      refine' sReturnD D₁₁ (eTup (aCons (eLoc D₁₁ rfl rfl rfl rfl (by decide)) (aCons (eLoc D₁₁ rfl rfl rfl rfl (by decide)) aNil rfl) rfl) (by simp only [List.length_cons, List.length_nil]; decide)) fun v g₅ h₆ D₅ sb' p' => ⟨v, g₅, _, rfl, D₅.toRet, rfl, p'⟩
end
theorem bitNot_eq (x : Int) : Builtin.bitNot x = -x - 1 := by unfold Builtin.bitNot; (first | lia | omega)
theorem fdiv_flip (a b : Int) : (-a).fdiv (-b) = a.fdiv b ∧ -((-a).fmod (-b)) = a.fmod b := by
  have h : (-a).fdiv (-b) = a.fdiv b := Int.neg_fdiv_neg a b
  refine ⟨h, ?_⟩
  rw [Int.fmod_def, Int.fmod_def, h]
  rw [Int.neg_mul]; (first | lia | omega)
theorem fdiv_low (a b : Int) (hb : 0 < b) : Builtin.bitNot ((Builtin.bitNot a).fdiv b) = a.fdiv b ∧ b + Builtin.bitNot ((Builtin.bitNot a).fmod b) = a.fmod b := by
  simp only [bitNot_eq]
  rw [Int.fdiv_eq_ediv_of_nonneg _ (Int.le_of_lt hb), Int.fdiv_eq_ediv_of_nonneg _ (Int.le_of_lt hb), Int.fmod_eq_emod_of_nonneg _ (Int.le_of_lt hb), Int.fmod_eq_emod_of_nonneg _ (Int.le_of_lt hb)]
  have e1 := Int.mul_ediv_add_emod (-a - 1) b
  have e2 := Int.emod_nonneg (-a - 1) (Int.ne_of_gt hb)
  have e3 := Int.emod_lt_of_pos (-a - 1) hb
  generalize (-a - 1) / b = q at *
  generalize (-a - 1) % b = r at *
  have := (Int.ediv_emod_unique (a := a) (b := b) (r := b - r - 1) (q := -q - 1) hb).mpr ⟨by rw [Int.mul_sub, Int.mul_neg]; (first | lia | omega), by (first | lia | omega), by (first | lia | omega)⟩
  rw [this.1, this.2]
  (first | lia | omega)
section
variable {c : GC}
theorem idm_spec : ∀ (n : Nat) {A : Around} {g : FB} {h : Heap} {v w : Value} {a b : Int}, n ≤ 2 → Rm A (n + 16) (3 * n + 210) → Pre c g [(67, tabI2), (74, tabD2)] h → Den g v (.int a) → Den g w (.int b) →
    a.natAbs < 4000 → b.natAbs < 4000 → b ≠ 0 → (n < 2 → 0 < b) → (n < 1 → 0 ≤ a) →
    Cd c A (.call (.ref 93) ⟨[v, w], []⟩) (fun r h' => ∃ v g' own', r = .ok (.ret v) ∧ Ret ⟨g, h, [67, 74]⟩ g' own' h' ∧ own' = [(67, tabI2), (74, tabD2)] ∧ Den g' v (.tup [.int (a.fdiv b), .int (a.fmod b)])) h := by
  intro n
  induction n with
  | zero =>
    intro A g h v w a b _ R P hv hw ha hb hb0 h2 h1
    have h2 := h2 (by (first | lia | omega))
    have h1 := h1 (by (first | lia | omega))
    refine enterD (dd := 15) (uu := 207) (binds := [("a", v), ("b", w)]) P rfl rfl R (fun s hs => .of_eq rfl) (locs rfl) (by decide) rfl rfl rfl (lookup2 hv hw) fun L h₁ D F R' => ?_
    refine' sIf D (b := (b == 0)) ?ca1 (fun e => absurd (eq_of_beq e) hb0) ?ca2
    case ca1 => (repeat' (first | with_reducible exact eInt | ((with_reducible refine' eLoc (by assumption) ?_ ?_ ?_ ?_ ?_) <;> first | rfl | decide) | exact eGlob (St.bas (by assumption)) rfl (fun _ => .int _ _) rfl rfl rfl rfl | with_reducible refine' eMod ?_ ?_ ?_ | with_reducible refine' eDiv ?_ ?_ ?_ ?_ | with_reducible refine' eAdd ?_ ?_ | with_reducible refine' eNeg ?_ | with_reducible refine' eInv ?_ | with_reducible refine' bLt ?_ ?_ ?_ | with_reducible refine' bGt ?_ ?_ ?_ | with_reducible refine' bEq ?_ ?_ ?_ | with_reducible refine' eMin (Rm.hn (by assumption)) ?_ ?_ ?_ ⟨_, _, rfl⟩ | with_reducible exact aNil | with_reducible refine' aCons ?_ ?_ ?_ | ((with_reducible show _ ≠ (0 : Int)); first | decide | (first | lia | omega)) | ((with_reducible show Builtin.divisionGoesByPylong _ _ = false); first | exact PyProof.noPylong_of_log2 (by decide +kernel) | exact PyProof.noPylong_small (by (first | lia | omega))) | ((with_reducible show behindInMarks _ _ = false); rfl) | ((with_reducible show starEach _ _ = _); rfl) | ((with_reducible show List.any _ _ = _); rfl) | ((with_reducible show Ev _ _ (eval (Expr.Name _ _) _) _ _ _); (first | exact evGlob (St.bas (by assumption)) rfl rfl rfl rfl (by decide) | exact evBuilt (St.bas (by assumption)) rfl rfl (by decide) rfl rfl rfl rfl (by decide)))))
    case ca2 =>
      intro _ g₂ h₂ D₂ s₂
      refine' sIf D₂ (b := decide (b < 0)) ?cb1 (fun e => absurd (of_decide_eq_true e) (by (first | lia | omega))) ?cb2
      case cb1 => (repeat' (first | with_reducible exact eInt | ((with_reducible refine' eLoc (by assumption) ?_ ?_ ?_ ?_ ?_) <;> first | rfl | decide) | exact eGlob (St.bas (by assumption)) rfl (fun _ => .int _ _) rfl rfl rfl rfl | with_reducible refine' eMod ?_ ?_ ?_ | with_reducible refine' eDiv ?_ ?_ ?_ ?_ | with_reducible refine' eAdd ?_ ?_ | with_reducible refine' eNeg ?_ | with_reducible refine' eInv ?_ | with_reducible refine' bLt ?_ ?_ ?_ | with_reducible refine' bGt ?_ ?_ ?_ | with_reducible refine' bEq ?_ ?_ ?_ | with_reducible refine' eMin (Rm.hn (by assumption)) ?_ ?_ ?_ ⟨_, _, rfl⟩ | with_reducible exact aNil | with_reducible refine' aCons ?_ ?_ ?_ | ((with_reducible show _ ≠ (0 : Int)); first | decide | (first | lia | omega)) | ((with_reducible show Builtin.divisionGoesByPylong _ _ = false); first | exact PyProof.noPylong_of_log2 (by decide +kernel) | exact PyProof.noPylong_small (by (first | lia | omega))) | ((with_reducible show behindInMarks _ _ = false); rfl) | ((with_reducible show starEach _ _ = _); rfl) | ((with_reducible show List.any _ _ = _); rfl) | ((with_reducible show Ev _ _ (eval (Expr.Name _ _) _) _ _ _); (first | exact evGlob (St.bas (by assumption)) rfl rfl rfl rfl (by decide) | exact evBuilt (St.bas (by assumption)) rfl rfl (by decide) rfl rfl rfl rfl (by decide)))))
      case cb2 =>
        intro _ g₃ h₃ D₃ s₃
        refine' sIf D₃ (b := decide (a < 0)) ?cc1 (fun e => absurd (of_decide_eq_true e) (by (first | lia | omega))) ?cc2
        case cc1 => (repeat' (first | with_reducible exact eInt | ((with_reducible refine' eLoc (by assumption) ?_ ?_ ?_ ?_ ?_) <;> first | rfl | decide) | exact eGlob (St.bas (by assumption)) rfl (fun _ => .int _ _) rfl rfl rfl rfl | with_reducible refine' eMod ?_ ?_ ?_ | with_reducible refine' eDiv ?_ ?_ ?_ ?_ | with_reducible refine' eAdd ?_ ?_ | with_reducible refine' eNeg ?_ | with_reducible refine' eInv ?_ | with_reducible refine' bLt ?_ ?_ ?_ | with_reducible refine' bGt ?_ ?_ ?_ | with_reducible refine' bEq ?_ ?_ ?_ | with_reducible refine' eMin (Rm.hn (by assumption)) ?_ ?_ ?_ ⟨_, _, rfl⟩ | with_reducible exact aNil | with_reducible refine' aCons ?_ ?_ ?_ | ((with_reducible show _ ≠ (0 : Int)); first | decide | (first | lia | omega)) | ((with_reducible show Builtin.divisionGoesByPylong _ _ = false); first | exact PyProof.noPylong_of_log2 (by decide +kernel) | exact PyProof.noPylong_small (by (first | lia | omega))) | ((with_reducible show behindInMarks _ _ = false); rfl) | ((with_reducible show starEach _ _ = _); rfl) | ((with_reducible show List.any _ _ = _); rfl) | ((with_reducible show Ev _ _ (eval (Expr.Name _ _) _) _ _ _); (first | exact evGlob (St.bas (by assumption)) rfl rfl rfl rfl (by decide) | exact evBuilt (St.bas (by assumption)) rfl rfl (by decide) rfl rfl rfl rfl (by decide)))))
        case cc2 =>
          intro _ g₄ h₄ D₄ s₄
          obtain ⟨a', rfl⟩ := Int.eq_ofNat_of_zero_le h1
          obtain ⟨b', rfl⟩ := Int.eq_ofNat_of_zero_le (Int.le_of_lt h2)
          refine sReturn ?_
          refine' Wp_CallM (f := 86) (ks := [67, 74]) (Post := fun g' v own' => own' = [(67, tabI2), (74, tabD2)] ∧ Den g' v (.tup [.int (a' / b' : Nat), .int (a' % b' : Nat)])) D₄ ?cd1 (c.X _ _ rfl) rfl (aCons (eLoc D₄ rfl rfl rfl rfl (by decide)) (aCons (eLoc D₄ rfl rfl rfl rfl (by decide)) aNil rfl) rfl) ⟨_, _, rfl⟩ (.take (.take .all)) (by simp) ?spec ?k
          case cd1 => (first | exact evGlob (St.bas (by assumption)) rfl rfl rfl rfl (by decide) | exact evBuilt (St.bas (by assumption)) rfl rfl (by decide) rfl rfl rfl rfl (by decide))
          case spec =>
            intro vs g₅ h₅ P₅ dv sb
            obtain ⟨v₁, v₂, rfl, d₁, d₂⟩ := dv.two_inv
            exact dvp_spec (R'.le (by (first | lia | omega)) (by (first | lia | omega))) P₅ d₁ d₂ (by (first | lia | omega)) (by (first | lia | omega)) (by (first | lia | omega))
          case k =>
            intro v₅ g₅ own₅ h₅ D₅ s₅ ⟨e5, dv₅⟩
            subst e5
            have D₅ : St c _ g₅ [(67, tabI2), (74, tabD2)] L _ h₅ := D₅
            rw [← fdiv_nat, ← fmod_nat] at dv₅
            exact ⟨v₅, g₅, _, rfl, D₅.toRet, rfl, dv₅⟩
  | succ n ih =>
    intro A g h v w a b hn R P hv hw ha hb hb0 h2 h1
    refine enterD (dd := n + 16) (uu := 3 * n + 210) (binds := [("a", v), ("b", w)]) P rfl rfl (R.le (by (first | lia | omega)) (by (first | lia | omega))) (fun s hs => .of_eq rfl) (locs rfl) (by decide) rfl rfl rfl (lookup2 hv hw) fun L h₁ D F R' => ?_
    refine' sIf D (b := (b == 0)) ?ca1 (fun e => absurd (eq_of_beq e) hb0) ?ca2
    case ca1 => (repeat' (first | with_reducible exact eInt | ((with_reducible refine' eLoc (by assumption) ?_ ?_ ?_ ?_ ?_) <;> first | rfl | decide) | exact eGlob (St.bas (by assumption)) rfl (fun _ => .int _ _) rfl rfl rfl rfl | with_reducible refine' eMod ?_ ?_ ?_ | with_reducible refine' eDiv ?_ ?_ ?_ ?_ | with_reducible refine' eAdd ?_ ?_ | with_reducible refine' eNeg ?_ | with_reducible refine' eInv ?_ | with_reducible refine' bLt ?_ ?_ ?_ | with_reducible refine' bGt ?_ ?_ ?_ | with_reducible refine' bEq ?_ ?_ ?_ | with_reducible refine' eMin (Rm.hn (by assumption)) ?_ ?_ ?_ ⟨_, _, rfl⟩ | with_reducible exact aNil | with_reducible refine' aCons ?_ ?_ ?_ | ((with_reducible show _ ≠ (0 : Int)); first | decide | (first | lia | omega)) | ((with_reducible show Builtin.divisionGoesByPylong _ _ = false); first | exact PyProof.noPylong_of_log2 (by decide +kernel) | exact PyProof.noPylong_small (by (first | lia | omega))) | ((with_reducible show behindInMarks _ _ = false); rfl) | ((with_reducible show starEach _ _ = _); rfl) | ((with_reducible show List.any _ _ = _); rfl) | ((with_reducible show Ev _ _ (eval (Expr.Name _ _) _) _ _ _); (first | exact evGlob (St.bas (by assumption)) rfl rfl rfl rfl (by decide) | exact evBuilt (St.bas (by assumption)) rfl rfl (by decide) rfl rfl rfl rfl (by decide)))))
    case ca2 =>
      intro _ g₂ h₂ D₂ s₂
      refine' sIf D₂ (b := decide (b < 0)) ?cb1 ?cb3 ?cb2
      case cb1 => (repeat' (first | with_reducible exact eInt | ((with_reducible refine' eLoc (by assumption) ?_ ?_ ?_ ?_ ?_) <;> first | rfl | decide) | exact eGlob (St.bas (by assumption)) rfl (fun _ => .int _ _) rfl rfl rfl rfl | with_reducible refine' eMod ?_ ?_ ?_ | with_reducible refine' eDiv ?_ ?_ ?_ ?_ | with_reducible refine' eAdd ?_ ?_ | with_reducible refine' eNeg ?_ | with_reducible refine' eInv ?_ | with_reducible refine' bLt ?_ ?_ ?_ | with_reducible refine' bGt ?_ ?_ ?_ | with_reducible refine' bEq ?_ ?_ ?_ | with_reducible refine' eMin (Rm.hn (by assumption)) ?_ ?_ ?_ ⟨_, _, rfl⟩ | with_reducible exact aNil | with_reducible refine' aCons ?_ ?_ ?_ | ((with_reducible show _ ≠ (0 : Int)); first | decide | (first | lia | omega)) | ((with_reducible show Builtin.divisionGoesByPylong _ _ = false); first | exact PyProof.noPylong_of_log2 (by decide +kernel) | exact PyProof.noPylong_small (by (first | lia | omega))) | ((with_reducible show behindInMarks _ _ = false); rfl) | ((with_reducible show starEach _ _ = _); rfl) | ((with_reducible show List.any _ _ = _); rfl) | ((with_reducible show Ev _ _ (eval (Expr.Name _ _) _) _ _ _); (first | exact evGlob (St.bas (by assumption)) rfl rfl rfl rfl (by decide) | exact evBuilt (St.bas (by assumption)) rfl rfl (by decide) rfl rfl rfl rfl (by decide)))))
      case cb3 =>
        intro e g₃ h₃ D₃ s₃
        have e := of_decide_eq_true e
        have hn1 : ¬ n + 1 < 2 := fun q => by have := h2 q; (first | lia | omega)
        refine' sAsgTW (Wp_CallM (f := 93) (ks := [67, 74]) (Post := fun g' v own' => own' = [(67, tabI2), (74, tabD2)] ∧ Den g' v (.tup [.int ((-a).fdiv (-b)), .int ((-a).fmod (-b))])) D₃ ?cd1 (c.X _ _ rfl) rfl (aCons (d := .int (-a)) ?cd2 (aCons (d := .int (-b)) ?cd3 aNil rfl) rfl) ⟨_, _, rfl⟩ (.take (.take .all)) (by simp) ?spec ?k) rfl rfl
        case cd1 => (first | exact evGlob (St.bas (by assumption)) rfl rfl rfl rfl (by decide) | exact evBuilt (St.bas (by assumption)) rfl rfl (by decide) rfl rfl rfl rfl (by decide))
        case cd2 => (repeat' (first | with_reducible exact eInt | ((with_reducible refine' eLoc (by assumption) ?_ ?_ ?_ ?_ ?_) <;> first | rfl | decide) | exact eGlob (St.bas (by assumption)) rfl (fun _ => .int _ _) rfl rfl rfl rfl | with_reducible refine' eMod ?_ ?_ ?_ | with_reducible refine' eDiv ?_ ?_ ?_ ?_ | with_reducible refine' eAdd ?_ ?_ | with_reducible refine' eNeg ?_ | with_reducible refine' eInv ?_ | with_reducible refine' bLt ?_ ?_ ?_ | with_reducible refine' bGt ?_ ?_ ?_ | with_reducible refine' bEq ?_ ?_ ?_ | with_reducible refine' eMin (Rm.hn (by assumption)) ?_ ?_ ?_ ⟨_, _, rfl⟩ | with_reducible exact aNil | with_reducible refine' aCons ?_ ?_ ?_ | ((with_reducible show _ ≠ (0 : Int)); first | decide | (first | lia | omega)) | ((with_reducible show Builtin.divisionGoesByPylong _ _ = false); first | exact PyProof.noPylong_of_log2 (by decide +kernel) | exact PyProof.noPylong_small (by (first | lia | omega))) | ((with_reducible show behindInMarks _ _ = false); rfl) | ((with_reducible show starEach _ _ = _); rfl) | ((with_reducible show List.any _ _ = _); rfl) | ((with_reducible show Ev _ _ (eval (Expr.Name _ _) _) _ _ _); (first | exact evGlob (St.bas (by assumption)) rfl rfl rfl rfl (by decide) | exact evBuilt (St.bas (by assumption)) rfl rfl (by decide) rfl rfl rfl rfl (by decide)))))
        case cd3 => (repeat' (first | with_reducible exact eInt | ((with_reducible refine' eLoc (by assumption) ?_ ?_ ?_ ?_ ?_) <;> first | rfl | decide) | exact eGlob (St.bas (by assumption)) rfl (fun _ => .int _ _) rfl rfl rfl rfl | with_reducible refine' eMod ?_ ?_ ?_ | with_reducible refine' eDiv ?_ ?_ ?_ ?_ | with_reducible refine' eAdd ?_ ?_ | with_reducible refine' eNeg ?_ | with_reducible refine' eInv ?_ | with_reducible refine' bLt ?_ ?_ ?_ | with_reducible refine' bGt ?_ ?_ ?_ | with_reducible refine' bEq ?_ ?_ ?_ | with_reducible refine' eMin (Rm.hn (by assumption)) ?_ ?_ ?_ ⟨_, _, rfl⟩ | with_reducible exact aNil | with_reducible refine' aCons ?_ ?_ ?_ | ((with_reducible show _ ≠ (0 : Int)); first | decide | (first | lia | omega)) | ((with_reducible show Builtin.divisionGoesByPylong _ _ = false); first | exact PyProof.noPylong_of_log2 (by decide +kernel) | exact PyProof.noPylong_small (by (first | lia | omega))) | ((with_reducible show behindInMarks _ _ = false); rfl) | ((with_reducible show starEach _ _ = _); rfl) | ((with_reducible show List.any _ _ = _); rfl) | ((with_reducible show Ev _ _ (eval (Expr.Name _ _) _) _ _ _); (first | exact evGlob (St.bas (by assumption)) rfl rfl rfl rfl (by decide) | exact evBuilt (St.bas (by assumption)) rfl rfl (by decide) rfl rfl rfl rfl (by decide)))))
        case spec =>
          intro vs g₅ h₅ P₅ dv sb
          obtain ⟨v₁, v₂, rfl, d₁, d₂⟩ := dv.two_inv
          exact ih (by (first | lia | omega)) (R'.le (by (first | lia | omega)) (by (first | lia | omega))) P₅ d₁ d₂ (by (first | lia | omega)) (by (first | lia | omega)) (by (first | lia | omega)) (fun _ => by (first | lia | omega)) (fun q => by (first | lia | omega))
        case k =>
          intro v₅ g₅ own₅ h₅ D₅ s₅ ⟨e5, dv₅⟩
          subst e5
          have D₅ : St c _ g₅ [(67, tabI2), (74, tabD2)] L _ h₅ := D₅
          refine Wp_asgTup2 D₅ R'.hn dv₅ F rfl rfl fun h₆ D₆ => ?_
          refine' sReturnD D₆ (eTup (aCons (eLoc D₆ rfl rfl rfl rfl (by decide)) (aCons (eNeg (eLoc D₆ rfl rfl rfl rfl (by decide))) aNil rfl) rfl) (by simp only [List.length_cons, List.length_nil]; decide)) fun v g₅ h₆ D₅ sb' p' => ⟨v, g₅, _, rfl, D₅.toRet, rfl, ?_⟩
          rw [(fdiv_flip a b).1, (fdiv_flip a b).2] at p'
          exact p'
      case cb2 =>
        intro e g₃ h₃ D₃ s₃
        have hb1 : 0 < b := by have := of_decide_eq_false e; (first | lia | omega)
        refine' sIf D₃ (b := decide (a < 0)) ?cc1 ?cc3 ?cc2
        case cc1 => (repeat' (first | with_reducible exact eInt | ((with_reducible refine' eLoc (by assumption) ?_ ?_ ?_ ?_ ?_) <;> first | rfl | decide) | exact eGlob (St.bas (by assumption)) rfl (fun _ => .int _ _) rfl rfl rfl rfl | with_reducible refine' eMod ?_ ?_ ?_ | with_reducible refine' eDiv ?_ ?_ ?_ ?_ | with_reducible refine' eAdd ?_ ?_ | with_reducible refine' eNeg ?_ | with_reducible refine' eInv ?_ | with_reducible refine' bLt ?_ ?_ ?_ | with_reducible refine' bGt ?_ ?_ ?_ | with_reducible refine' bEq ?_ ?_ ?_ | with_reducible refine' eMin (Rm.hn (by assumption)) ?_ ?_ ?_ ⟨_, _, rfl⟩ | with_reducible exact aNil | with_reducible refine' aCons ?_ ?_ ?_ | ((with_reducible show _ ≠ (0 : Int)); first | decide | (first | lia | omega)) | ((with_reducible show Builtin.divisionGoesByPylong _ _ = false); first | exact PyProof.noPylong_of_log2 (by decide +kernel) | exact PyProof.noPylong_small (by (first | lia | omega))) | ((with_reducible show behindInMarks _ _ = false); rfl) | ((with_reducible show starEach _ _ = _); rfl) | ((with_reducible show List.any _ _ = _); rfl) | ((with_reducible show Ev _ _ (eval (Expr.Name _ _) _) _ _ _); (first | exact evGlob (St.bas (by assumption)) rfl rfl rfl rfl (by decide) | exact evBuilt (St.bas (by assumption)) rfl rfl (by decide) rfl rfl rfl rfl (by decide)))))
        case cc3 =>
          intro e g₄ h₄ D₄ s₄
          have e := of_decide_eq_true e
          refine' sAsgTW (Wp_CallM (f := 93) (ks := [67, 74]) (Post := fun g' v own' => own' = [(67, tabI2), (74, tabD2)] ∧ Den g' v (.tup [.int ((Builtin.bitNot a).fdiv b), .int ((Builtin.bitNot a).fmod b)])) D₄ ?cd1 (c.X _ _ rfl) rfl (aCons (d := .int (Builtin.bitNot a)) ?cd2 (aCons (d := .int b) ?cd3 aNil rfl) rfl) ⟨_, _, rfl⟩ (.take (.take .all)) (by simp) ?spec ?k) rfl rfl
          case cd1 => (first | exact evGlob (St.bas (by assumption)) rfl rfl rfl rfl (by decide) | exact evBuilt (St.bas (by assumption)) rfl rfl (by decide) rfl rfl rfl rfl (by decide))
          case cd2 => (repeat' (first | with_reducible exact eInt | ((with_reducible refine' eLoc (by assumption) ?_ ?_ ?_ ?_ ?_) <;> first | rfl | decide) | exact eGlob (St.bas (by assumption)) rfl (fun _ => .int _ _) rfl rfl rfl rfl | with_reducible refine' eMod ?_ ?_ ?_ | with_reducible refine' eDiv ?_ ?_ ?_ ?_ | with_reducible refine' eAdd ?_ ?_ | with_reducible refine' eNeg ?_ | with_reducible refine' eInv ?_ | with_reducible refine' bLt ?_ ?_ ?_ | with_reducible refine' bGt ?_ ?_ ?_ | with_reducible refine' bEq ?_ ?_ ?_ | with_reducible refine' eMin (Rm.hn (by assumption)) ?_ ?_ ?_ ⟨_, _, rfl⟩ | with_reducible exact aNil | with_reducible refine' aCons ?_ ?_ ?_ | ((with_reducible show _ ≠ (0 : Int)); first | decide | (first | lia | omega)) | ((with_reducible show Builtin.divisionGoesByPylong _ _ = false); first | exact PyProof.noPylong_of_log2 (by decide +kernel) | exact PyProof.noPylong_small (by (first | lia | omega))) | ((with_reducible show behindInMarks _ _ = false); rfl) | ((with_reducible show starEach _ _ = _); rfl) | ((with_reducible show List.any _ _ = _); rfl) | ((with_reducible show Ev _ _ (eval (Expr.Name _ _) _) _ _ _); (first | exact evGlob (St.bas (by assumption)) rfl rfl rfl rfl (by decide) | exact evBuilt (St.bas (by assumption)) rfl rfl (by decide) rfl rfl rfl rfl (by decide)))))
          case cd3 => (repeat' (first | with_reducible exact eInt | ((with_reducible refine' eLoc (by assumption) ?_ ?_ ?_ ?_ ?_) <;> first | rfl | decide) | exact eGlob (St.bas (by assumption)) rfl (fun _ => .int _ _) rfl rfl rfl rfl | with_reducible refine' eMod ?_ ?_ ?_ | with_reducible refine' eDiv ?_ ?_ ?_ ?_ | with_reducible refine' eAdd ?_ ?_ | with_reducible refine' eNeg ?_ | with_reducible refine' eInv ?_ | with_reducible refine' bLt ?_ ?_ ?_ | with_reducible refine' bGt ?_ ?_ ?_ | with_reducible refine' bEq ?_ ?_ ?_ | with_reducible refine' eMin (Rm.hn (by assumption)) ?_ ?_ ?_ ⟨_, _, rfl⟩ | with_reducible exact aNil | with_reducible refine' aCons ?_ ?_ ?_ | ((with_reducible show _ ≠ (0 : Int)); first | decide | (first | lia | omega)) | ((with_reducible show Builtin.divisionGoesByPylong _ _ = false); first | exact PyProof.noPylong_of_log2 (by decide +kernel) | exact PyProof.noPylong_small (by (first | lia | omega))) | ((with_reducible show behindInMarks _ _ = false); rfl) | ((with_reducible show starEach _ _ = _); rfl) | ((with_reducible show List.any _ _ = _); rfl) | ((with_reducible show Ev _ _ (eval (Expr.Name _ _) _) _ _ _); (first | exact evGlob (St.bas (by assumption)) rfl rfl rfl rfl (by decide) | exact evBuilt (St.bas (by assumption)) rfl rfl (by decide) rfl rfl rfl rfl (by decide)))))
          case spec =>
            intro vs g₅ h₅ P₅ dv sb
            obtain ⟨v₁, v₂, rfl, d₁, d₂⟩ := dv.two_inv
            have := bitNot_eq a
            exact ih (by (first | lia | omega)) (R'.le (by (first | lia | omega)) (by (first | lia | omega))) P₅ d₁ d₂ (by (first | lia | omega)) (by (first | lia | omega)) (by (first | lia | omega)) (fun _ => hb1) (fun q => by (first | lia | omega))
          case k =>
            intro v₅ g₅ own₅ h₅ D₅ s₅ ⟨e5, dv₅⟩
            subst e5
            have D₅ : St c _ g₅ [(67, tabI2), (74, tabD2)] L _ h₅ := D₅
            refine Wp_asgTup2 D₅ R'.hn dv₅ F rfl rfl fun h₆ D₆ => ?_
            refine' sReturnD D₆ (eTup (aCons (eInv (eLoc D₆ rfl rfl rfl rfl (by decide))) (aCons (eAdd (eLoc D₆ rfl rfl rfl rfl (by decide)) (eInv (eLoc D₆ rfl rfl rfl rfl (by decide)))) aNil rfl) rfl) (by simp only [List.length_cons, List.length_nil]; decide)) fun v g₅ h₆ D₅ sb' p' => ⟨v, g₅, _, rfl, D₅.toRet, rfl, ?_⟩
            rw [(fdiv_low a b hb1).1, (fdiv_low a b hb1).2] at p'
            exact p'
        case cc2 =>
          intro e g₄ h₄ D₄ s₄
          have h1 : 0 ≤ a := by have := of_decide_eq_false e; (first | lia | omega)
          obtain ⟨a', rfl⟩ := Int.eq_ofNat_of_zero_le h1
          obtain ⟨b', rfl⟩ := Int.eq_ofNat_of_zero_le (Int.le_of_lt hb1)
          refine sReturn ?_
          refine' Wp_CallM (f := 86) (ks := [67, 74]) (Post := fun g' v own' => own' = [(67, tabI2), (74, tabD2)] ∧ Den g' v (.tup [.int (a' / b' : Nat), .int (a' % b' : Nat)])) D₄ ?cd1 (c.X _ _ rfl) rfl (aCons (eLoc D₄ rfl rfl rfl rfl (by decide)) (aCons (eLoc D₄ rfl rfl rfl rfl (by decide)) aNil rfl) rfl) ⟨_, _, rfl⟩ (.take (.take .all)) (by simp) ?spec ?k
          case cd1 => (first | exact evGlob (St.bas (by assumption)) rfl rfl rfl rfl (by decide) | exact evBuilt (St.bas (by assumption)) rfl rfl (by decide) rfl rfl rfl rfl (by decide))
          case spec =>
            intro vs g₅ h₅ P₅ dv sb
            obtain ⟨v₁, v₂, rfl, d₁, d₂⟩ := dv.two_inv
            exact dvp_spec (R'.le (by (first | lia | omega)) (by (first | lia | omega))) P₅ d₁ d₂ (by (first | lia | omega)) (by (first | lia | omega)) (by (first | lia | omega))
          case k =>
            intro v₅ g₅ own₅ h₅ D₅ s₅ ⟨e5, dv₅⟩
            subst e5
            have D₅ : St c _ g₅ [(67, tabI2), (74, tabD2)] L _ h₅ := D₅
            rw [← fdiv_nat, ← fmod_nat] at dv₅
            exact ⟨v₅, g₅, _, rfl, D₅.toRet, rfl, dv₅⟩
end
noncomputable def Tm.size : Tm → Nat
  | .leaf _ _ => 1
  | .node _ a b => a.size + b.size + 1
noncomputable def Tm.deep : Tm → Nat
  | .leaf _ _ => 0
  | .node _ a b => max a.deep b.deep + 1
inductive TmOk : Tm → Prop
  | leaf {k x : Int} : k = 0 ∨ k = 1 → 0 ≤ x → x < 10 ^ 6 → TmOk (.leaf k x)
  | node {k : Int} {a b : Tm} : 2 ≤ k → k ≤ 4 → TmOk a → TmOk b → TmOk (.node k a b)
structure LN where
  ds : List Int
  os : List Int
  gs : List (Int × Int)
noncomputable def layN : Tm → Int → Nat → Nat → Nat → LN
  | .leaf k x, owner, depth, dn, gn => ⟨[k + 5 * x.fmod (if k = 0 then 2001 else 16)], [owner], []⟩
  | .node k a b, owner, depth, dn, gn =>
    if k = 4 then
      let p := layN a gn depth dn (gn + 1)
      let q := layN b owner depth (dn + p.ds.length + 1) (gn + 1 + p.gs.length)
      ⟨p.ds ++ [4 + 5 * ((dn + p.ds.length + 1 + q.ds.length : Nat) : Int)] ++ q.ds, p.os ++ [owner] ++ q.os, (((dn + p.ds.length + 1 : Nat) : Int), 2 * (depth : Int) + (gn : Int).fmod 2) :: (p.gs ++ q.gs)⟩
    else
      let p := layN a owner depth dn gn
      let q := layN b owner (depth + 1) (dn + p.ds.length) (gn + p.gs.length)
      ⟨p.ds ++ q.ds ++ [k], p.os ++ q.os ++ [owner], p.gs ++ q.gs⟩
theorem layN_len : ∀ (t : Tm) (owner : Int) (depth dn gn : Nat), (layN t owner depth dn gn).ds.length = t.size ∧ (layN t owner depth dn gn).os.length = t.size ∧ (layN t owner depth dn gn).gs.length ≤ t.size
  | .leaf k x, owner, depth, dn, gn => by simp [layN, Tm.size]
  | .node k a b, owner, depth, dn, gn => by
    unfold layN
    split
    · have h1 := layN_len a gn depth dn (gn + 1)
      have h2 := layN_len b owner depth (dn + (layN a gn depth dn (gn + 1)).ds.length + 1) (gn + 1 + (layN a gn depth dn (gn + 1)).gs.length)
      simp only [List.length_append, List.length_cons, List.length_nil, Tm.size]
      (first | lia | omega)
    · have h1 := layN_len a owner depth dn gn
      have h2 := layN_len b owner (depth + 1) (dn + (layN a owner depth dn gn).ds.length) (gn + (layN a owner depth dn gn).gs.length)
      simp only [List.length_append, List.length_cons, List.length_nil, Tm.size]
      (first | lia | omega)
section
variable {c : GC}
theorem lay_spec : ∀ (t : Tm) {A : Around} {g : FB} {h : Heap} {v w u y : Value} {owner : Int} {depth : Nat} {DA OA GA : Addr} {ds os : List Int} {gds : List Dt}, TmOk t → Rm A (t.deep + 1) (3 * t.deep + 103) →
    Pre c g [(DA, .lst (ds.map .int)), (OA, .lst (os.map .int)), (GA, .lst gds)] h → Den g v t.dt → Den g w (.int owner) → Den g u (.int depth) → Den g y (.lst [.ref DA, .ref OA, .ref GA]) →
    ds.length + t.size ≤ 1000 → os.length + t.size ≤ 1000 → gds.length + t.size ≤ 1000 → depth + t.size ≤ 1000 →
    Cd c A (.call (.ref 121) ⟨[v, w, u, y], []⟩) (fun r h' => ∃ v g' own', r = .ok (.ret v) ∧ Ret ⟨g, h, [DA, OA, GA]⟩ g' own' h' ∧ v = .none ∧
      ∃ as, as.length = (layN t owner depth ds.length gds.length).gs.length ∧ own' = [(DA, .lst ((ds ++ (layN t owner depth ds.length gds.length).ds).map .int)), (OA, .lst ((os ++ (layN t owner depth ds.length gds.length).os).map .int)), (GA, .lst (gds ++ as.map .ref))] ++ gled as (layN t owner depth ds.length gds.length).gs) h := by
  intro t
  induction t with
  | leaf k x =>
    intro A g h v w u y owner depth DA OA GA ds os gds ok R P hv hw hu hy h1 h2 h3 h4
    obtain ⟨hk, hx0, hx1⟩ : (k = 0 ∨ k = 1) ∧ 0 ≤ x ∧ x < 10 ^ 6 := by cases ok; exact ⟨‹_›, ‹_›, ‹_›⟩
    refine enterD (dd := 0) (uu := 100) (binds := [("term", v), ("owner", w), ("depth", u), ("page", y)]) P rfl rfl R (fun s hs => .of_eq rfl) (locs rfl) (by decide) rfl rfl rfl (lookup4 hv hw hu hy) fun L h₁ D F R' => ?_
    refine Wp_gen fun Q kQ => ?_
    simp only [Tm.size] at h1 h2 h3 h4
    refine sAsgL3 D F R'.hn (eLoc D rfl rfl rfl rfl (by decide)) rfl rfl rfl rfl rfl fun g₂ h₂ D₂ s₂ => ?_
    refine' sIf D₂ (b := (k == 4)) (bEq (eIdx (d := .int k) (lD (eLoc D₂ rfl rfl rfl rfl (by decide))) eInt (by decide) rfl (by simp [Tm.dt]) fun _ _ => rfl) eInt rfl) (fun e => absurd (eq_of_beq e) (by (first | lia | omega))) fun _ g₃ h₃ D₃ s₃ => ?_
    refine' sIf D₃ (b := decide (1 < k)) (bGt (eIdx (d := .int k) (lD (eLoc D₃ rfl rfl rfl rfl (by decide))) eInt (by decide) rfl (by simp [Tm.dt]) fun _ _ => rfl) eInt rfl) (fun e => absurd (of_decide_eq_true e) (by (first | lia | omega))) fun _ g₄ h₄ D₄ s₄ => ?_
    refine' sAppend (d := .int (k + 5 * x.fmod (if k = 0 then 2001 else 16))) D₄ (eLoc D₄ rfl rfl rfl rfl (by decide)) ?v .head (by simp only [List.length_map, sizeLine_eq]; (first | lia | omega)) rfl rfl rfl rfl rfl fun g₅ h₅ D₅ s₅ => ?_
    case v =>
      refine eIf (bLt (eIdx (d := .int k) (lD (eLoc D₄ rfl rfl rfl rfl (by decide))) eInt (by decide) rfl (by simp [Tm.dt]) fun _ _ => rfl) eInt rfl) (fun e => ?_) fun e => absurd (of_decide_eq_false e) (by (first | lia | omega))
      have ek : [(Dt.int 2001), .int 16][k.toNat]? = some (.int (if k = 0 then 2001 else 16)) := by rcases hk with rfl | rfl <;> rfl
      refine eAdd (eIdx (d := .int k) (lD (eLoc D₄ rfl rfl rfl rfl (by decide))) eInt (by decide) rfl (by simp [Tm.dt]) fun _ _ => rfl) (eMul eInt (eMod (eIdx (d := .int x) (lD (eLoc D₄ rfl rfl rfl rfl (by decide))) eInt (by decide) rfl (by simp [Tm.dt]) fun _ _ => rfl)
        (eIdx (lN D₄.gr (eList (aCons eInt (aCons eInt aNil rfl) rfl) (by decide))) (eIdx (d := .int k) (lD (eLoc D₄ rfl rfl rfl rfl (by decide))) eInt (by decide) rfl (by simp [Tm.dt]) fun _ _ => rfl) (by (first | lia | omega)) ek (by decide) fun _ _ => rfl) (by split <;> decide)) ?_)
      mul_fits
    refine' sAppend (d := .int owner) D₅ (eLoc D₅ rfl rfl rfl rfl (by decide)) (eLoc D₅ rfl rfl rfl rfl (by decide)) (.tail .head) (by simp only [List.length_map, sizeLine_eq]; (first | lia | omega)) rfl rfl rfl rfl rfl fun g₆ h₆ D₆ s₆ => sNil (kQ _ _ ⟨.none, g₆, _, rfl, D₆.toRet, rfl, [], rfl, ?_⟩)
    simp [layN, gled]
  | node k a b iha ihb =>
    intro A g h v w u y owner depth DA OA GA ds os gds ok R P hv hw hu hy h1 h2 h3 h4
    obtain ⟨hk2, hk4, oka, okb⟩ : 2 ≤ k ∧ k ≤ 4 ∧ TmOk a ∧ TmOk b := by cases ok; exact ⟨‹_›, ‹_›, ‹_›, ‹_›⟩
    simp only [Tm.size] at h1 h2 h3 h4
    simp only [Tm.deep] at R
    have hda : a.deep ≤ max a.deep b.deep := Nat.le_max_left ..
    have hdb : b.deep ≤ max a.deep b.deep := Nat.le_max_right ..
    refine enterD (dd := max a.deep b.deep + 1) (uu := 3 * max a.deep b.deep + 103) (binds := [("term", v), ("owner", w), ("depth", u), ("page", y)]) P rfl rfl (R.le (by (first | lia | omega)) (by (first | lia | omega))) (fun s hs => .of_eq rfl) (locs rfl) (by decide) rfl rfl rfl (lookup4 hv hw hu hy) fun L h₁ D F R' => ?_
    refine Wp_gen fun Q kQ => ?_
    refine sAsgL3 D F R'.hn (eLoc D rfl rfl rfl rfl (by decide)) rfl rfl rfl rfl rfl fun g₂ h₂ D₂ s₂ => ?_
    refine' sIf D₂ (b := (k == 4)) (bEq (eIdx (d := .int k) (lD (eLoc D₂ rfl rfl rfl rfl (by decide))) eInt (by decide) rfl (by simp) fun _ _ => rfl) eInt rfl) (fun e g₃ h₃ D₃ s₃ => ?_) fun e g₃ h₃ D₃ s₃ => ?_
    · have hk : k = 4 := eq_of_beq e
      subst hk
      have hgl : gds.length ≤ 1000 := by (first | lia | omega)
      refine sAssign (d := .int gds.length) D₃ F (eLen (by (first | exact evGlob (St.bas (by assumption)) rfl rfl rfl rfl (by decide) | exact evBuilt (St.bas (by assumption)) rfl rfl (by decide) rfl rfl rfl rfl (by decide))) (lR (eLoc D₃ rfl rfl rfl rfl (by decide)) (D₃.lstAt (by (repeat' (first | exact List.Mem.head _ | refine' List.mem_append_right _ ?_ | refine' List.Mem.tail _ ?_))))) rfl (by (first | lia | omega))) rfl rfl fun g₄ h₄ D₄ s₄ => ?_
      refine' sAppendN (es := [.int 0, .int (2 * (depth : Int) + (gds.length : Int).fmod 2)]) (ow := fun b => [(DA, .lst (ds.map .int)), (OA, .lst (os.map .int)), (GA, .lst (gds ++ [.ref b]))]) D₄ (eLoc D₄ rfl rfl rfl rfl (by decide)) (eList (aCons eInt (aCons ?ca1 aNil rfl) rfl) (by simp only [List.length_cons, List.length_nil]; decide)) (fun b => .tail (.tail .head)) (by simp only [sizeLine_eq]; (first | lia | omega)) rfl rfl rfl rfl rfl fun a0 g₅ h₅ D₅ hn0 s₅ => ?_
      case ca1 =>
        refine eAdd (eMul eInt (eLoc D₄ rfl rfl rfl rfl (by decide)) ?_) (eMod (eLoc D₄ rfl rfl rfl rfl (by decide)) eInt (by decide))
        mul_fits
      have la := layN_len a gds.length depth ds.length (gds.length + 1)
      have epa : layN a (gds.length : Nat) depth ds.length (gds ++ [Dt.ref a0]).length = layN a gds.length depth ds.length (gds.length + 1) := by rw [List.length_append]; rfl
      refine' sExpr (Wp_CallM (f := 121) (ks := [DA, OA, GA]) (Post := fun g' v own' => v = .none ∧ ∃ as, as.length = (layN a gds.length depth ds.length (gds.length + 1)).gs.length ∧
          own' = [(DA, .lst ((ds ++ (layN a gds.length depth ds.length (gds.length + 1)).ds).map .int)), (OA, .lst ((os ++ (layN a gds.length depth ds.length (gds.length + 1)).os).map .int)), (GA, .lst ((gds ++ [.ref a0]) ++ as.map .ref))] ++ gled as (layN a gds.length depth ds.length (gds.length + 1)).gs)
        D₅ ?cb1 (c.X _ _ rfl) rfl (aCons (d := a.dt) (eIdx (lD (eLoc D₅ rfl rfl rfl rfl (by decide))) eInt (by decide) rfl (by simp) fun _ _ => rfl) (aCons (eLoc D₅ rfl rfl rfl rfl (by decide)) (aCons (eLoc D₅ rfl rfl rfl rfl (by decide)) (aCons (eLoc D₅ rfl rfl rfl rfl (by decide)) aNil rfl) rfl) rfl) rfl) ⟨_, _, rfl⟩ (.skip (.take (.take (.take .all)))) (by simp) ?spec1 ?k1) rfl rfl
      case cb1 => (first | exact evGlob (St.bas (by assumption)) rfl rfl rfl rfl (by decide) | exact evBuilt (St.bas (by assumption)) rfl rfl (by decide) rfl rfl rfl rfl (by decide))
      case spec1 =>
        intro vs g₆ h₆ P₆ dv sb
        obtain _ | ⟨d₁, dv⟩ := dv
        obtain ⟨v₂, v₃, v₄, rfl, d₂, d₃, d₄⟩ := dv.three_inv
        have := iha (owner := (gds.length : Nat)) oka (R'.le (by (first | lia | omega)) (by (first | lia | omega))) P₆ d₁ d₂ d₃ d₄ (by (first | lia | omega)) (by (first | lia | omega)) (by simp only [List.length_append, List.length_cons, List.length_nil]; (first | lia | omega)) (by (first | lia | omega))
        rw [epa] at this
        exact this
      case k1 =>
      intro v₆ g₆ own₆ h₆ D₆ s₆ ⟨ev, as, has, eo⟩
      subst ev eo
      refine ⟨rfl, ?_⟩
      generalize hpa : layN a gds.length depth ds.length (gds.length + 1) = p at *
      have D₆ := D₆.oe (own' := ((DA, .lst ((ds ++ p.ds).map .int)) :: (OA, .lst ((os ++ p.os).map .int)) :: (GA, .lst ((gds ++ [.ref a0]) ++ as.map .ref)) :: (gled as p.gs ++ [(a0, .lst [.int 0, .int (2 * (depth : Int) + (gds.length : Int).fmod 2)])]))) (by rw [List.append_assoc]; rfl)
      refine sAssign (d := .int ((ds.length + p.ds.length : Nat) : Int)) D₆ F ?cc1 rfl rfl fun g₇ h₇ D₇ s₇ => ?_
      case cc1 =>
        rw [show ((ds.length + p.ds.length : Nat) : Int) = (((ds ++ p.ds).map Dt.int).length : Int) by simp]
        exact eLen (by (first | exact evGlob (St.bas (by assumption)) rfl rfl rfl rfl (by decide) | exact evBuilt (St.bas (by assumption)) rfl rfl (by decide) rfl rfl rfl rfl (by decide))) (lR (eLoc D₆ rfl rfl rfl rfl (by decide)) (D₆.lstAt (.head _))) rfl (by simp; (first | lia | omega))
      refine' sAppend (d := .int 4) D₇ (eLoc D₇ rfl rfl rfl rfl (by decide)) eInt .head (by simp only [List.length_map, List.length_append, sizeLine_eq]; (first | lia | omega)) rfl rfl rfl rfl rfl fun g₈ h₈ D₈ s₈ => ?_
      refine' sAppend (d := .int owner) D₈ (eLoc D₈ rfl rfl rfl rfl (by decide)) (eLoc D₈ rfl rfl rfl rfl (by decide)) (.tail .head) (by simp only [List.length_map, List.length_append, sizeLine_eq]; (first | lia | omega)) rfl rfl rfl rfl rfl fun g₉ h₉ D₉ s₉ => ?_
      refine' sSetL (d := .int ((ds.length + p.ds.length + 1 : Nat) : Int)) (k := 0) (a := a0) D₉ ?cd1 (eIdx (d := .ref a0) (lR (eLoc D₉ rfl rfl rfl rfl (by decide)) (D₉.lstAt (.tail _ (.tail _ (.head _))))) (eLoc D₉ rfl rfl rfl rfl (by decide)) (by (first | lia | omega)) (by simp) (by simp; (first | lia | omega)) fun _ _ => rfl) eInt (.tail (.tail (.tail (Up.app .head)))) (by decide) (by simp) (by simp) rfl fun g₁₀ h₁₀ D₁₀ s₁₀ => ?_
      case cd1 =>
        rw [show ((ds.length + p.ds.length + 1 : Nat) : Int) = (((ds ++ p.ds).map Dt.int ++ [Dt.int 4]).length : Int) by simp; (first | lia | omega)]
        exact eLen (by (first | exact evGlob (St.bas (by assumption)) rfl rfl rfl rfl (by decide) | exact evBuilt (St.bas (by assumption)) rfl rfl (by decide) rfl rfl rfl rfl (by decide))) (lR (eLoc D₉ rfl rfl rfl rfl (by decide)) (D₉.lstAt (.head _))) rfl (by simp; (first | lia | omega))
      have lb := layN_len b owner depth (ds.length + p.ds.length + 1) (gds.length + 1 + p.gs.length)
      have D₁₁ := D₁₀.oe (own' := ((DA, .lst ((ds ++ p.ds ++ [4]).map .int)) :: (OA, .lst ((os ++ p.os ++ [owner]).map .int)) :: (GA, .lst ((gds ++ [.ref a0]) ++ as.map .ref)) :: (gled as p.gs ++ [(a0, .lst [.int ((ds.length + p.ds.length + 1 : Nat) : Int), .int (2 * (depth : Int) + (gds.length : Int).fmod 2)])]))) (by rw [ints_app (ds ++ p.ds), ints_app (os ++ p.os)]; rfl)
      have epb : layN b owner depth (ds ++ p.ds ++ [4]).length ((gds ++ [Dt.ref a0]) ++ as.map Dt.ref).length = layN b owner depth (ds.length + p.ds.length + 1) (gds.length + 1 + p.gs.length) := by
        simp only [List.length_append, List.length_cons, List.length_nil, List.length_map, has]
      refine' sExpr (Wp_CallM (f := 121) (ks := [DA, OA, GA]) (Post := fun g' v own' => v = .none ∧ ∃ bs, bs.length = (layN b owner depth (ds.length + p.ds.length + 1) (gds.length + 1 + p.gs.length)).gs.length ∧
          own' = [(DA, .lst ((ds ++ p.ds ++ [4] ++ (layN b owner depth (ds.length + p.ds.length + 1) (gds.length + 1 + p.gs.length)).ds).map .int)), (OA, .lst ((os ++ p.os ++ [owner] ++ (layN b owner depth (ds.length + p.ds.length + 1) (gds.length + 1 + p.gs.length)).os).map .int)), (GA, .lst (((gds ++ [.ref a0]) ++ as.map .ref) ++ bs.map .ref))] ++ gled bs (layN b owner depth (ds.length + p.ds.length + 1) (gds.length + 1 + p.gs.length)).gs)
        D₁₁ ?ce1 (c.X _ _ rfl) rfl (aCons (d := b.dt) (eIdx (lD (eLoc D₁₁ rfl rfl rfl rfl (by decide))) eInt (by decide) rfl (by simp) fun _ _ => rfl) (aCons (eLoc D₁₁ rfl rfl rfl rfl (by decide)) (aCons (eLoc D₁₁ rfl rfl rfl rfl (by decide)) (aCons (eLoc D₁₁ rfl rfl rfl rfl (by decide)) aNil rfl) rfl) rfl) rfl) ⟨_, _, rfl⟩ (.take (.take (.take .all))) (by simp) ?spec2 ?k2) rfl rfl
      case ce1 => (first | exact evGlob (St.bas (by assumption)) rfl rfl rfl rfl (by decide) | exact evBuilt (St.bas (by assumption)) rfl rfl (by decide) rfl rfl rfl rfl (by decide))
      case spec2 =>
        intro vs g₆ h₆ P₆ dv sb
        obtain _ | ⟨d₁, dv⟩ := dv
        obtain ⟨v₂, v₃, v₄, rfl, d₂, d₃, d₄⟩ := dv.three_inv
        have := ihb okb (R'.le (by (first | lia | omega)) (by (first | lia | omega))) P₆ d₁ d₂ d₃ d₄ (by simp only [List.length_append, List.length_cons, List.length_nil]; (first | lia | omega)) (by simp only [List.length_append, List.length_cons, List.length_nil]; (first | lia | omega)) (by simp only [List.length_append, List.length_cons, List.length_nil, List.length_map]; (first | lia | omega)) (by (first | lia | omega))
        rw [epb] at this
        exact this
      case k2 =>
      intro v₁₂ g₁₂ own₁₂ h₁₂ D₁₂ s₁₂ ⟨ev, bs, hbs, eo⟩
      subst ev eo
      refine ⟨rfl, ?_⟩
      have eL : layN (.node 4 a b) owner depth ds.length gds.length = _ := rfl
      generalize hpb : layN b owner depth (ds.length + p.ds.length + 1) (gds.length + 1 + p.gs.length) = q at *
      have D₁₂ := D₁₂.oe (own' := ((DA, .lst ((ds ++ p.ds ++ [4] ++ q.ds).map .int)) :: (OA, .lst ((os ++ p.os ++ [owner] ++ q.os).map .int)) :: (GA, .lst (((gds ++ [.ref a0]) ++ as.map .ref) ++ bs.map .ref)) :: (gled bs q.gs ++ (gled as p.gs ++ [(a0, .lst [.int ((ds.length + p.ds.length + 1 : Nat) : Int), .int (2 * (depth : Int) + (gds.length : Int).fmod 2)])])))) rfl
      have hN : layN (.node 4 a b) owner depth ds.length gds.length = ⟨p.ds ++ [4 + 5 * ((ds.length + p.ds.length + 1 + q.ds.length : Nat) : Int)] ++ q.ds, p.os ++ [owner] ++ q.os, (((ds.length + p.ds.length + 1 : Nat) : Int), 2 * (depth : Int) + (gds.length : Int).fmod 2) :: (p.gs ++ q.gs)⟩ := by
        rw [← hpb, ← hpa]; rfl
      refine' sSetL (d := .int (4 + 5 * ((ds.length + p.ds.length + 1 + q.ds.length : Nat) : Int))) (k := ((ds.length + p.ds.length : Nat) : Int)) (a := DA) D₁₂ ?cf1 (eLoc D₁₂ rfl rfl rfl rfl (by decide)) (eLoc D₁₂ rfl rfl rfl rfl (by decide)) .head (by (first | lia | omega)) (by simp; (first | lia | omega)) (by simp; (first | lia | omega)) rfl fun g₁₃ h₁₃ D₁₃ s₁₃ => sNil (kQ _ _ ⟨.none, g₁₃, _, rfl, (D₁₃.perm ?pp).toRet, rfl, a0 :: (as ++ bs), ?qq, rfl⟩)
      case cf1 =>
        refine eAdd eInt (eMul eInt ?_ ?_)
        · rw [show ((ds.length + p.ds.length + 1 + q.ds.length : Nat) : Int) = (((ds ++ p.ds ++ [4] ++ q.ds).map Dt.int).length : Int) by simp; (first | lia | omega)]
          exact eLen (by (first | exact evGlob (St.bas (by assumption)) rfl rfl rfl rfl (by decide) | exact evBuilt (St.bas (by assumption)) rfl rfl (by decide) rfl rfl rfl rfl (by decide))) (lR (eLoc D₁₂ rfl rfl rfl rfl (by decide)) (D₁₂.lstAt (.head _))) rfl (by simp; (first | lia | omega))
        · mul_fits
      case qq =>
        rw [hN]
        simp [has, hbs]
      case pp =>
        rw [hN]
        have e1 : ((ds ++ p.ds ++ [4] ++ q.ds).map Dt.int).set ((ds.length + p.ds.length : Nat) : Int).toNat (.int (4 + 5 * ((ds.length + p.ds.length + 1 + q.ds.length : Nat) : Int))) = (ds ++ (p.ds ++ [4 + 5 * ((ds.length + p.ds.length + 1 + q.ds.length : Nat) : Int)] ++ q.ds)).map Dt.int := by
          rw [Int.toNat_natCast, (show List.map Dt.int (ds ++ p.ds ++ [4] ++ q.ds) = List.map Dt.int (ds ++ p.ds) ++ (Dt.int 4 :: List.map Dt.int q.ds) from by simp), List.set_append_right _ _ (by simp)]
          simp
        rw [e1]
        simp only [List.cons_append, List.nil_append]
        rw [show os ++ (p.os ++ [owner] ++ q.os) = os ++ p.os ++ [owner] ++ q.os by simp, show gds ++ (a0 :: (as ++ bs)).map Dt.ref = gds ++ [.ref a0] ++ as.map .ref ++ bs.map .ref by simp]
        refine .cons _ (.cons _ (.cons _ ?_))
        rw [show gled (a0 :: (as ++ bs)) ((((ds.length + p.ds.length + 1 : Nat) : Int), 2 * (depth : Int) + (gds.length : Int).fmod 2) :: (p.gs ++ q.gs)) = (a0, .lst [.int ((ds.length + p.ds.length + 1 : Nat) : Int), .int (2 * (depth : Int) + (gds.length : Int).fmod 2)]) :: gled (as ++ bs) (p.gs ++ q.gs) from rfl, gled_app has]
        refine (List.perm_append_comm (l₁ := [_]) (l₂ := gled as p.gs ++ gled bs q.gs)).trans ?_
        rw [← List.append_assoc (gled bs q.gs)]
        exact List.perm_append_comm.append_right _
    · have hk : k ≠ 4 := by intro q; rw [q] at e; simp at e
      refine' sIf D₃ (b := decide (1 < k)) (bGt (eIdx (d := .int k) (lD (eLoc D₃ rfl rfl rfl rfl (by decide))) eInt (by decide) rfl (by simp) fun _ _ => rfl) eInt rfl) (fun _ g₄ h₄ D₄ s₄ => ?_) fun e => absurd (of_decide_eq_false e) (by (first | lia | omega))
      have la := layN_len a owner depth ds.length gds.length
      refine' sExpr (Wp_CallM (f := 121) (ks := [DA, OA, GA]) (Post := fun g' v own' => v = .none ∧ ∃ as, as.length = (layN a owner depth ds.length gds.length).gs.length ∧
          own' = [(DA, .lst ((ds ++ (layN a owner depth ds.length gds.length).ds).map .int)), (OA, .lst ((os ++ (layN a owner depth ds.length gds.length).os).map .int)), (GA, .lst (gds ++ as.map .ref))] ++ gled as (layN a owner depth ds.length gds.length).gs)
        D₄ ?cb1 (c.X _ _ rfl) rfl (aCons (d := a.dt) (eIdx (lD (eLoc D₄ rfl rfl rfl rfl (by decide))) eInt (by decide) rfl (by simp) fun _ _ => rfl) (aCons (eLoc D₄ rfl rfl rfl rfl (by decide)) (aCons (eLoc D₄ rfl rfl rfl rfl (by decide)) (aCons (eLoc D₄ rfl rfl rfl rfl (by decide)) aNil rfl) rfl) rfl) rfl) ⟨_, _, rfl⟩ (.take (.take (.take .all))) (by simp) ?spec1 ?k1) rfl rfl
      case cb1 => (first | exact evGlob (St.bas (by assumption)) rfl rfl rfl rfl (by decide) | exact evBuilt (St.bas (by assumption)) rfl rfl (by decide) rfl rfl rfl rfl (by decide))
      case spec1 =>
        intro vs g₆ h₆ P₆ dv sb
        obtain _ | ⟨d₁, dv⟩ := dv
        obtain ⟨v₂, v₃, v₄, rfl, d₂, d₃, d₄⟩ := dv.three_inv
        exact iha oka (R'.le (by (first | lia | omega)) (by (first | lia | omega))) P₆ d₁ d₂ d₃ d₄ (by (first | lia | omega)) (by (first | lia | omega)) (by (first | lia | omega)) (by (first | lia | omega))
      case k1 =>
      intro v₆ g₆ own₆ h₆ D₆ s₆ ⟨ev, as, has, eo⟩
      subst ev eo
      refine ⟨rfl, ?_⟩
      generalize hpa : layN a owner depth ds.length gds.length = p at *
      have D₆ := D₆.oe (own' := (DA, .lst ((ds ++ p.ds).map .int)) :: (OA, .lst ((os ++ p.os).map .int)) :: (GA, .lst (gds ++ as.map .ref)) :: gled as p.gs) (by simp)
      have lb := layN_len b owner (depth + 1) (ds.length + p.ds.length) (gds.length + p.gs.length)
      have epb : layN b owner (depth + 1) (ds ++ p.ds).length (gds ++ as.map Dt.ref).length = layN b owner (depth + 1) (ds.length + p.ds.length) (gds.length + p.gs.length) := by
        simp only [List.length_append, List.length_map, has]
      refine' sExpr (Wp_CallM (f := 121) (ks := [DA, OA, GA]) (Post := fun g' v own' => v = .none ∧ ∃ bs, bs.length = (layN b owner (depth + 1) (ds.length + p.ds.length) (gds.length + p.gs.length)).gs.length ∧
          own' = [(DA, .lst ((ds ++ p.ds ++ (layN b owner (depth + 1) (ds.length + p.ds.length) (gds.length + p.gs.length)).ds).map .int)), (OA, .lst ((os ++ p.os ++ (layN b owner (depth + 1) (ds.length + p.ds.length) (gds.length + p.gs.length)).os).map .int)), (GA, .lst ((gds ++ as.map .ref) ++ bs.map .ref))] ++ gled bs (layN b owner (depth + 1) (ds.length + p.ds.length) (gds.length + p.gs.length)).gs)
        D₆ ?ce1 (c.X _ _ rfl) rfl (aCons (d := b.dt) (eIdx (lD (eLoc D₆ rfl rfl rfl rfl (by decide))) eInt (by decide) rfl (by simp) fun _ _ => rfl) (aCons (eLoc D₆ rfl rfl rfl rfl (by decide)) (aCons (d := .int ((depth : Int) + 1)) (eAdd (eLoc D₆ rfl rfl rfl rfl (by decide)) eInt) (aCons (eLoc D₆ rfl rfl rfl rfl (by decide)) aNil rfl) rfl) rfl) rfl) ⟨_, _, rfl⟩ (.take (.take (.take .all))) (by simp) ?spec2 ?k2) rfl rfl
      case ce1 => (first | exact evGlob (St.bas (by assumption)) rfl rfl rfl rfl (by decide) | exact evBuilt (St.bas (by assumption)) rfl rfl (by decide) rfl rfl rfl rfl (by decide))
      case spec2 =>
        intro vs g₆ h₆ P₆ dv sb
        obtain _ | ⟨d₁, dv⟩ := dv
        obtain ⟨v₂, v₃, v₄, rfl, d₂, d₃, d₄⟩ := dv.three_inv
        have d₃ : Den g₆ v₃ (.int ((depth + 1 : Nat) : Int)) := by rw [Int.natCast_add]; exact d₃
        have := ihb okb (R'.le (by (first | lia | omega)) (by (first | lia | omega))) P₆ d₁ d₂ d₃ d₄ (by simp only [List.length_append]; (first | lia | omega)) (by simp only [List.length_append]; (first | lia | omega)) (by simp only [List.length_append, List.length_map]; (first | lia | omega)) (by (first | lia | omega))
        rw [epb] at this
        exact this
      case k2 =>
      intro v₁₂ g₁₂ own₁₂ h₁₂ D₁₂ s₁₂ ⟨ev, bs, hbs, eo⟩
      subst ev eo
      refine ⟨rfl, ?_⟩
      generalize hpb : layN b owner (depth + 1) (ds.length + p.ds.length) (gds.length + p.gs.length) = q at *
      have D₁₂ := D₁₂.oe (own' := (DA, .lst ((ds ++ p.ds ++ q.ds).map .int)) :: (OA, .lst ((os ++ p.os ++ q.os).map .int)) :: (GA, .lst ((gds ++ as.map .ref) ++ bs.map .ref)) :: (gled bs q.gs ++ gled as p.gs)) rfl
      have hN : layN (.node k a b) owner depth ds.length gds.length = ⟨p.ds ++ q.ds ++ [k], p.os ++ q.os ++ [owner], p.gs ++ q.gs⟩ := by
        rw [layN, if_neg hk, hpa, ← hpb]
      refine' sAppend (d := .int k) D₁₂ (eLoc D₁₂ rfl rfl rfl rfl (by decide)) ?v .head (by simp only [List.length_map, List.length_append, sizeLine_eq]; (first | lia | omega)) rfl rfl rfl rfl rfl fun g₁₃ h₁₃ D₁₃ s₁₃ => ?_
      case v =>
        exact eIf (bLt (eIdx (d := .int k) (lD (eLoc D₁₂ rfl rfl rfl rfl (by decide))) eInt (by decide) rfl (by simp) fun _ _ => rfl) eInt rfl) (fun e => absurd (of_decide_eq_true e) (by (first | lia | omega))) fun _ => eIdx (d := .int k) (lD (eLoc D₁₂ rfl rfl rfl rfl (by decide))) eInt (by decide) rfl (by simp) fun _ _ => rfl
      refine' sAppend (d := .int owner) D₁₃ (eLoc D₁₃ rfl rfl rfl rfl (by decide)) (eLoc D₁₃ rfl rfl rfl rfl (by decide)) (.tail .head) (by simp only [List.length_map, List.length_append, sizeLine_eq]; (first | lia | omega)) rfl rfl rfl rfl rfl fun g₁₄ h₁₄ D₁₄ s₁₄ => sNil (kQ _ _ ⟨.none, g₁₄, _, rfl, (D₁₄.perm ?pp).toRet, rfl, as ++ bs, ?qq, rfl⟩)
      case qq => rw [hN]; simp [has, hbs]
      case pp =>
        rw [hN]
        simp only [List.cons_append, List.nil_append]
        rw [show List.map Dt.int (ds ++ (p.ds ++ q.ds ++ [k])) = List.map Dt.int (ds ++ p.ds ++ q.ds) ++ [Dt.int k] by simp, show List.map Dt.int (os ++ (p.os ++ q.os ++ [owner])) = List.map Dt.int (os ++ p.os ++ q.os) ++ [Dt.int owner] by simp, show gds ++ (as ++ bs).map Dt.ref = gds ++ as.map .ref ++ bs.map .ref by simp, gled_app has]
        exact .cons _ (.cons _ (.cons _ List.perm_append_comm))
end
structure Wds (ws : List (List Nat)) : Prop where
  four : ws.length = 4
  lows : ∀ i, Lows (ws.getD i [])
  low : ∀ i, Low (S (ws.getD i []))
  ap : ∀ i j, 0 ≤ apart (S (ws.getD i [])) (S (ws.getD j [])) ∧ apart (S (ws.getD i [])) (S (ws.getD j [])) ≤ 12
noncomputable abbrev wdts (ws : List (List Nat)) : List Dt := ws.map fun w => Dt.str (S w)
theorem wdts_at {ws : List (List Nat)} {k : Nat} (h : k < ws.length) : (wdts ws)[k]? = some (.str (S (ws.getD k []))) := by
  rw [List.getElem?_map, List.getElem?_eq_getElem h, List.getD_eq_getElem?_getD, List.getElem?_eq_getElem h]; rfl
noncomputable def wpart (ws : List (List Nat)) (y : Nat) : Int := apart (S (ws.getD (y / 4) [])) (S (ws.getD (y % 4) []))
noncomputable def worthN (k : Int) (pa pb : Option Int × List Dt) : Option Int × List Dt :=
  if k = 4 then match pa.1 with
    | some v => (some v, pa.2)
    | none => (pb.1, pa.2 ++ pb.2)
  else match pa.1 with
    | none => (none, pa.2)
    | some x => match pb.1 with
      | none => (none, pa.2 ++ pb.2)
      | some y => if y = 0 then (none, pa.2 ++ pb.2 ++ [.str "none"])
        else (some (if k = 2 then x.fdiv y else x.fmod y), pa.2 ++ pb.2 ++ [.tup [.int (x.fdiv y), .int (x.fmod y)], .str (iText (x.fdiv y)), .str (iText (x.fmod y))])
noncomputable def worthF (ws : List (List Nat)) : Tm → Option Int × List Dt
  | .leaf k x => if k = 0 then (some (x.fmod 2001 - 1000), [.int (x.fmod 2001 - 1000 + 1000), .tup [.int (x.fmod 2001 - 1000), .int (x.fmod 2001 - 1000)], .str (iText (x.fmod 2001 - 1000)), .str (iText (x.fmod 2001 - 1000))])
    else (some (wpart ws (x.toNat % 16)), [.str (iText (wpart ws (x.toNat % 16)))])
  | .node k a b => worthN k (worthF ws a) (worthF ws b)
theorem fdiv_small {a b : Int} (hb : b ≠ 0) : (a.fdiv b).natAbs ≤ a.natAbs := by
  rcases Int.lt_or_gt_of_ne hb with h | h
  · have e := (fdiv_flip a b).1
    rw [← e, Int.fdiv_eq_ediv_of_nonneg _ (by (first | lia | omega))]
    have h1 := Int.ediv_nonneg_iff_of_pos (a := -a) (b := -b) (by (first | lia | omega))
    by_cases ha : 0 ≤ -a
    · have h2 := Int.ediv_le_self (-b) ha
      have := h1.mpr ha
      (first | lia | omega)
    · have h3 : -a ≤ (-a) / (-b) := by
        rw [Int.le_ediv_iff_mul_le (by (first | lia | omega))]
        have := Int.mul_le_mul_of_nonpos_left (show -a ≤ 0 by (first | lia | omega)) (show (1 : Int) ≤ -b by (first | lia | omega))
        (first | lia | omega)
      have : ¬ 0 ≤ (-a) / (-b) := fun q => ha (h1.mp q)
      (first | lia | omega)
  · rw [Int.fdiv_eq_ediv_of_nonneg _ (by (first | lia | omega))]
    have h1 := Int.ediv_nonneg_iff_of_pos (a := a) (b := b) (by (first | lia | omega))
    by_cases ha : 0 ≤ a
    · have h2 := Int.ediv_le_self b ha
      have := h1.mpr ha
      (first | lia | omega)
    · have h3 : a ≤ a / b := by
        rw [Int.le_ediv_iff_mul_le (by (first | lia | omega))]
        have := Int.mul_le_mul_of_nonpos_left (show a ≤ 0 by (first | lia | omega)) (show (1 : Int) ≤ b by (first | lia | omega))
        (first | lia | omega)
      have : ¬ 0 ≤ a / b := fun q => ha (h1.mp q)
      (first | lia | omega)
theorem fmod_small {a b : Int} (hb : b ≠ 0) : (a.fmod b).natAbs < b.natAbs := by
  rcases Int.lt_or_gt_of_ne hb with h | h
  · rw [← (fdiv_flip a b).2, Int.fmod_eq_emod_of_nonneg _ (by (first | lia | omega))]
    have h1 := Int.emod_nonneg (-a) (show -b ≠ 0 by (first | lia | omega))
    have h2 := Int.emod_lt_of_pos (-a) (show 0 < -b by (first | lia | omega))
    (first | lia | omega)
  · rw [Int.fmod_eq_emod_of_nonneg _ (by (first | lia | omega))]
    have h1 := Int.emod_nonneg a hb
    have h2 := Int.emod_lt_of_pos a h
    (first | lia | omega)
theorem worth_small {ws : List (List Nat)} (W : Wds ws) : ∀ (t : Tm) (v : Int), (worthF ws t).1 = some v → v.natAbs ≤ 1000
  | .leaf k x, v, h => by
    unfold worthF at h
    split at h
    · simp at h
      have h1 := Int.emod_nonneg x (show (2001 : Int) ≠ 0 by decide)
      have h2 := Int.emod_lt_of_pos x (show (0 : Int) < 2001 by decide)
      rw [Int.fmod_eq_emod_of_nonneg _ (by decide)] at h
      (first | lia | omega)
    · simp at h
      have := W.ap (x.toNat % 16 / 4) (x.toNat % 16 % 4)
      unfold wpart at h
      (first | lia | omega)
  | .node k a b, v, h => by
    unfold worthF worthN at h
    have ha := worth_small W a
    have hb := worth_small W b
    split at h
    · split at h
      · next x e => simp at h; subst h; exact ha _ e
      · exact hb _ h
    · split at h
      · cases h
      · next x e =>
        split at h
        · cases h
        · next y e2 =>
          split at h
          · cases h
          · next hy =>
            simp at h
            have h1 := fdiv_small (a := x) hy
            have h2 := fmod_small (a := x) hy
            have := ha x e
            have := hb y e2
            subst h
            split <;> (first | lia | omega)
theorem worth_len (ws : List (List Nat)) : ∀ (t : Tm), (worthF ws t).2.length ≤ 4 * t.size
  | .leaf k x => by unfold worthF; split <;> simp [Tm.size]
  | .node k a b => by
    have ha := worth_len ws a
    have hb := worth_len ws b
    unfold worthF worthN
    simp only [Tm.size]
    split
    · split <;> simp only [List.length_append] <;> (first | lia | omega)
    · split
      · simp only []; (first | lia | omega)
      · split
        · simp only [List.length_append]; (first | lia | omega)
        · split <;> simp only [List.length_append, List.length_cons, List.length_nil] <;> (first | lia | omega)
noncomputable def odt : Option Int → Dt
  | some v => .int v
  | none => .none
theorem log_small {v : Int} (h : v.natAbs ≤ 4000) : v.natAbs.log2 < 1920 := by
  have : v.natAbs.log2 < 12 := log2_lt (by (first | lia | omega)) (by decide)
  (first | lia | omega)
section
variable {c : GC}
theorem worth_spec {ws : List (List Nat)} (W : Wds ws) : ∀ (t : Tm) {A : Around} {g : FB} {h : Heap} {v w u : Value} {LG : Addr} {ds : List Dt}, TmOk t → Rm A (t.deep + 2) (3 * t.deep + 110) →
    Pre c g [(LG, .lst ds)] h → Den g v t.dt → Den g w (.lst (wdts ws)) → Den g u (.ref LG) → ds.length + 4 * t.size ≤ 100000 →
    Cd c A (.call (.ref 157) ⟨[v, w, u], []⟩) (fun r h' => ∃ v g' own', r = .ok (.ret v) ∧ Ret ⟨g, h, [LG]⟩ g' own' h' ∧ own' = [(LG, .lst (ds ++ (worthF ws t).2))] ∧ Den g' v (odt (worthF ws t).1)) h := by
  intro t
  induction t with
  | leaf k x =>
    intro A g h v w u LG ds ok R P hv hw hu hl
    obtain ⟨hk, hx0, hx1⟩ : (k = 0 ∨ k = 1) ∧ 0 ≤ x ∧ x < 10 ^ 6 := by cases ok; exact ⟨‹_›, ‹_›, ‹_›⟩
    simp only [Tm.size] at hl
    refine enterD (dd := 1) (uu := 107) (binds := [("term", v), ("words", w), ("log", u)]) P rfl rfl R (fun s hs => .of_eq rfl) (locs rfl) (by decide) rfl rfl rfl (lookup3 hv hw hu) fun L h₁ D F R' => ?_
    refine' sIf D (b := (k == 0)) (bEq (eIdx (d := .int k) (lD (eLoc D rfl rfl rfl rfl (by decide))) eInt (by decide) rfl (by simp [Tm.dt]) fun _ _ => rfl) eInt rfl) (fun e g₂ h₂ D₂ s₂ => ?_) fun e g₂ h₂ D₂ s₂ => ?_
    · have hk : k = 0 := eq_of_beq e
      subst hk
      have hv := worth_small W (.leaf 0 x) (x.fmod 2001 - 1000) (by simp [worthF])
      refine sAssign (d := .int (x.fmod 2001 - 1000)) D₂ F (eSub (eMod (eIdx (d := .int x) (lD (eLoc D₂ rfl rfl rfl rfl (by decide))) eInt (by decide) rfl (by simp [Tm.dt]) fun _ _ => rfl) eInt (by decide)) eInt) rfl rfl fun g₃ h₃ D₃ s₃ => ?_
      have hW : worthF ws (.leaf 0 x) = (some (x.fmod 2001 - 1000), [.int (x.fmod 2001 - 1000 + 1000), .tup [.int (x.fmod 2001 - 1000), .int (x.fmod 2001 - 1000)], .str (iText (x.fmod 2001 - 1000)), .str (iText (x.fmod 2001 - 1000))]) := by simp [worthF]
      rw [hW]
      generalize x.fmod 2001 - 1000 = y at *
      refine' sExtend D₃ (eLoc D₃ rfl rfl rfl rfl (by decide)) (lN D₃.gr (eList (aCons (eAdd (eLoc D₃ rfl rfl rfl rfl (by decide)) eInt) (aCons (eTup (aCons (eLoc D₃ rfl rfl rfl rfl (by decide)) (aCons (eLoc D₃ rfl rfl rfl rfl (by decide)) aNil rfl) rfl) (by simp only [List.length_cons, List.length_nil]; decide)) (aCons (eStrI ?ca1 (eLoc D₃ rfl rfl rfl rfl (by decide)) (log_small (by (first | lia | omega))) rfl) (aCons (eStrI ?ca2 (eLoc D₃ rfl rfl rfl rfl (by decide)) (log_small (by (first | lia | omega))) rfl) aNil rfl) rfl) rfl) rfl) (by simp only [List.length_cons, List.length_nil]; decide))) .head (by simp only [List.length_cons, List.length_nil, sizeLine_eq]; (first | lia | omega)) rfl rfl rfl rfl rfl fun g₄ h₄ D₄ s₄ => ?_
      case ca1 => (first | exact evGlob (St.bas (by assumption)) rfl rfl rfl rfl (by decide) | exact evBuilt (St.bas (by assumption)) rfl rfl (by decide) rfl rfl rfl rfl (by decide))
      case ca2 => (first | exact evGlob (St.bas (by assumption)) rfl rfl rfl rfl (by decide) | exact evBuilt (St.bas (by assumption)) rfl rfl (by decide) rfl rfl rfl rfl (by decide))
      exact sReturnD D₄ (eLoc D₄ rfl rfl rfl rfl (by decide)) fun v g₅ h₆ D₅ sb' p' => ⟨v, g₅, _, rfl, D₅.toRet, rfl, p'⟩
    · have hk1 : k = 1 := by rcases hk with rfl | rfl; (simp at e); rfl
      subst hk1
      refine' sIf D₂ (b := ((1 : Int) == 1)) (bEq (eIdx (d := .int 1) (lD (eLoc D₂ rfl rfl rfl rfl (by decide))) eInt (by decide) rfl (by simp [Tm.dt]) fun _ _ => rfl) eInt rfl) (fun e g₃ h₃ D₃ s₃ => ?_) fun e => by simp at e
      obtain ⟨n, rfl⟩ := Int.eq_ofNat_of_zero_le hx0
      have hW : worthF ws (.leaf 1 (n : Int)) = (some (wpart ws (n % 16)), [.str (iText (wpart ws (n % 16)))]) := by simp [worthF]
      have hap : 0 ≤ wpart ws (n % 16) ∧ wpart ws (n % 16) ≤ 12 := W.ap (n % 16 / 4) (n % 16 % 4)
      have h4 := W.four
      refine' sAppend (d := .str (iText (wpart ws (n % 16)))) D₃ (eLoc D₃ rfl rfl rfl rfl (by decide)) (eStrI ?cb1 (eCallF (f := 152) D₃.bas ?cb2 (c.X _ _ rfl) rfl
        (aCons (d := .str (S (ws.getD (n % 16 / 4) []))) (eIdx (k := ((n % 16 / 4 : Nat) : Int)) (lD (eLoc D₃ rfl rfl rfl rfl (by decide))) ?cb3 (by (first | lia | omega)) (wdts_at (by (first | lia | omega))) (by simp; (first | lia | omega)) fun _ _ => rfl) (aCons (d := .str (S (ws.getD (n % 16 % 4) []))) (eIdx (k := ((n % 16 % 4 : Nat) : Int)) (lD (eLoc D₃ rfl rfl rfl rfl (by decide))) ?cb4 (by (first | lia | omega)) (wdts_at (by (first | lia | omega))) (by simp; (first | lia | omega)) fun _ _ => rfl) aNil rfl) rfl) ⟨_, _, rfl⟩ ?cb5) (log_small (by (first | lia | omega))) rfl) .head (by simp only [sizeLine_eq]; (first | lia | omega)) rfl rfl rfl rfl rfl fun g₄ h₄ D₄ s₄ => ?_
      case cb1 => (first | exact evGlob (St.bas (by assumption)) rfl rfl rfl rfl (by decide) | exact evBuilt (St.bas (by assumption)) rfl rfl (by decide) rfl rfl rfl rfl (by decide))
      case cb2 => (first | exact evGlob (St.bas (by assumption)) rfl rfl rfl rfl (by decide) | exact evBuilt (St.bas (by assumption)) rfl rfl (by decide) rfl rfl rfl rfl (by decide))
      case cb3 =>
        rw [show ((n % 16 / 4 : Nat) : Int) = ((n : Int).fmod ((16 : Nat) : Int)).fdiv ((4 : Nat) : Int) by rw [fmod_nat, fdiv_nat]]
        exact eDiv (eMod (eIdx (d := .int n) (lD (eLoc D₃ rfl rfl rfl rfl (by decide))) eInt (by decide) rfl (by simp [Tm.dt]) fun _ _ => rfl) eInt (by decide)) eInt (by decide) (PyProof.noPylong_small (by decide))
      case cb4 =>
        rw [show ((n % 16 % 4 : Nat) : Int) = ((n : Int).fmod ((4 : Nat) : Int)) by rw [fmod_nat]; (first | lia | omega)]
        exact eMod (eIdx (d := .int n) (lD (eLoc D₃ rfl rfl rfl rfl (by decide))) eInt (by decide) rfl (by simp [Tm.dt]) fun _ _ => rfl) eInt (by decide)
      case cb5 =>
        intro vs g' h' G' dv
        obtain ⟨v₁, v₂, rfl, d₁, d₂⟩ := dv.two_inv
        exact apart_spec (R'.le (by (first | lia | omega)) (by (first | lia | omega))) (D₃.bas.gr G').pre d₁ d₂ (W.low _) (W.low _)
      rw [hW]
      refine sReturnD (d := .int (wpart ws (n % 16))) D₄ (eIntS (by (first | exact evGlob (St.bas (by assumption)) rfl rfl rfl rfl (by decide) | exact evBuilt (St.bas (by assumption)) rfl rfl (by decide) rfl rfl rfl rfl (by decide))) (eIdxN (lR (eLoc D₄ rfl rfl rfl rfl (by decide)) (D₄.lstAt (.head _))) (eNeg eInt) (by decide) (by simp; (first | lia | omega)) ?_ (by simp; (first | lia | omega)) fun _ _ => rfl) (by (first | lia | omega)) (by (first | lia | omega)) rfl) fun v g₅ h₆ D₅ sb' p' => ⟨v, g₅, _, rfl, D₅.toRet, rfl, p'⟩
      rw [List.length_append, show ((-1 : Int) + ((ds.length + [Dt.str (iText (wpart ws (n % 16)))].length : Nat) : Int)).toNat = ds.length by simp; (first | lia | omega)]
      simp
  | node k a b iha ihb =>
    intro A g h v w u LG ds ok R P hv hw hu hl
    obtain ⟨hk2, hk4, oka, okb⟩ : 2 ≤ k ∧ k ≤ 4 ∧ TmOk a ∧ TmOk b := by cases ok; exact ⟨‹_›, ‹_›, ‹_›, ‹_›⟩
    simp only [Tm.size] at hl
    simp only [Tm.deep] at R
    have hda : a.deep ≤ max a.deep b.deep := Nat.le_max_left ..
    have hdb : b.deep ≤ max a.deep b.deep := Nat.le_max_right ..
    have lna := worth_len ws a
    have lnb := worth_len ws b
    have sma := worth_small W a
    have smb := worth_small W b
    have ew : worthF ws (.node k a b) = worthN k (worthF ws a) (worthF ws b) := rfl
    unfold worthN at ew
    refine enterD (dd := max a.deep b.deep + 2) (uu := 3 * max a.deep b.deep + 110) (binds := [("term", v), ("words", w), ("log", u)]) P rfl rfl (R.le (by (first | lia | omega)) (by (first | lia | omega))) (fun s hs => .of_eq rfl) (locs rfl) (by decide) rfl rfl rfl (lookup3 hv hw hu) fun L h₁ D F R' => ?_
    refine' sIf D (b := (k == 0)) (bEq (eIdx (d := .int k) (lD (eLoc D rfl rfl rfl rfl (by decide))) eInt (by decide) rfl (by simp [Tm.dt]) fun _ _ => rfl) eInt rfl) (fun e => by have := eq_of_beq e; (first | lia | omega)) fun e g₂ h₂ D₂ s₂ => ?_
    refine' sIf D₂ (b := (k == 1)) (bEq (eIdx (d := .int k) (lD (eLoc D₂ rfl rfl rfl rfl (by decide))) eInt (by decide) rfl (by simp [Tm.dt]) fun _ _ => rfl) eInt rfl) (fun e => by have := eq_of_beq e; (first | lia | omega)) fun e g₃ h₃ D₃ s₃ => ?_
    refine' sAssignW (Wp_CallM (f := 157) (ks := [LG]) (Post := fun g' v own' => own' = [(LG, .lst (ds ++ (worthF ws a).2))] ∧ Den g' v (odt (worthF ws a).1)) D₃ ?ca1 (c.X _ _ rfl) rfl
      (aCons (d := a.dt) (eIdx (lD (eLoc D₃ rfl rfl rfl rfl (by decide))) eInt (by decide) rfl (by simp [Tm.dt]) fun _ _ => rfl) (aCons (eLoc D₃ rfl rfl rfl rfl (by decide)) (aCons (eLoc D₃ rfl rfl rfl rfl (by decide)) aNil rfl) rfl) rfl) ⟨_, _, rfl⟩ (.take .all) (by simp) ?spec1 ?k1) rfl
    case ca1 => (first | exact evGlob (St.bas (by assumption)) rfl rfl rfl rfl (by decide) | exact evBuilt (St.bas (by assumption)) rfl rfl (by decide) rfl rfl rfl rfl (by decide))
    case spec1 =>
      intro vs g₁ h₁ P₁ dv sb
      obtain ⟨v₁, v₂, v₃, rfl, d₁, d₂, d₃⟩ := dv.three_inv
      exact iha oka (R'.le (by (first | lia | omega)) (by (first | lia | omega))) P₁ d₁ d₂ d₃ (by (first | lia | omega))
    case k1 =>
    intro v₄ g₄ own₄ h₄ D₄ s₄ ⟨eo, dv₄⟩
    subst eo
    generalize hpa : worthF ws a = pa at *
    obtain ⟨va, la⟩ := pa
    refine Wp_storeL D₄ dv₄ F rfl fun h₅ D₅ => ?_
    have D₅ := D₅.oe (own' := [(LG, .lst (ds ++ la))]) rfl
    simp only [] at ew lna sma
    refine' sIf D₅ (b := (k == 4)) (bEq (eIdx (d := .int k) (lD (eLoc D₅ rfl rfl rfl rfl (by decide))) eInt (by decide) rfl (by simp [Tm.dt]) fun _ _ => rfl) eInt rfl) (fun e g₆ h₆ D₆ s₆ => ?_) fun e g₆ h₆ D₆ s₆ => ?_
    · have hk : k = 4 := eq_of_beq e
      subst hk
      rw [if_pos rfl] at ew
      refine sReturn (Wp_IfExp ((bIsN (eLoc D₆ rfl rfl rfl rfl (by decide))).wp D₆ fun bb g₇ h₇ D₇ G₇ eb => ⟨fun q => ?_, fun q => ?_⟩))
      · subst eb
        have hva : va = none := by cases va; rfl; cases q
        subst hva
        simp only [] at ew
        rw [ew]
        refine' Wp_CallM (f := 157) (ks := [LG]) (Post := fun g' v own' => own' = [(LG, .lst (ds ++ la ++ (worthF ws b).2))] ∧ Den g' v (odt (worthF ws b).1)) D₇ ?cb1 (c.X _ _ rfl) rfl
          (aCons (d := b.dt) (eIdx (lD (eLoc D₇ rfl rfl rfl rfl (by decide))) eInt (by decide) rfl (by simp [Tm.dt]) fun _ _ => rfl) (aCons (eLoc D₇ rfl rfl rfl rfl (by decide)) (aCons (eLoc D₇ rfl rfl rfl rfl (by decide)) aNil rfl) rfl) rfl) ⟨_, _, rfl⟩ (.take .all) (by simp) ?spec2 ?k2
        case cb1 => (first | exact evGlob (St.bas (by assumption)) rfl rfl rfl rfl (by decide) | exact evBuilt (St.bas (by assumption)) rfl rfl (by decide) rfl rfl rfl rfl (by decide))
        case spec2 =>
          intro vs g₁ h₁ P₁ dv sb
          obtain ⟨v₁, v₂, v₃, rfl, d₁, d₂, d₃⟩ := dv.three_inv
          exact ihb okb (R'.le (by (first | lia | omega)) (by (first | lia | omega))) P₁ d₁ d₂ d₃ (by simp only [List.length_append]; (first | lia | omega))
        case k2 =>
          intro v₈ g₈ own₈ h₈ D₈ s₈ ⟨eo, dv₈⟩
          subst eo
          have D₈ := D₈.oe (own' := [(LG, .lst (ds ++ la ++ (worthF ws b).2))]) rfl
          exact ⟨v₈, g₈, _, rfl, D₈.toRet, by rw [List.append_assoc], dv₈⟩
      · subst eb
        obtain ⟨x, rfl⟩ : ∃ x, va = some x := by cases va; (cases q); exact ⟨_, rfl⟩
        simp only [] at ew
        rw [ew]
        exact (eLoc D₇ rfl rfl rfl rfl (by decide)).wp D₇ fun v g₈ h₈ D₈ G₈ dv => ⟨v, g₈, _, rfl, D₈.toRet, rfl, dv⟩
    · have hk : k ≠ 4 := by intro q; rw [q] at e; simp at e
      rw [if_neg hk] at ew
      refine sAssignW (Wp_IfExp ((bNotN (eLoc D₆ rfl rfl rfl rfl (by decide))).wp D₆ fun bb g₇ h₇ D₇ G₇ eb => ⟨fun q => ?_, fun q => ?_⟩)) rfl
      · subst eb
        obtain ⟨x, rfl⟩ : ∃ x, va = some x := by cases va; (cases q); exact ⟨_, rfl⟩
        have sx := sma x rfl
        refine' Wp_CallM (f := 157) (ks := [LG]) (Post := fun g' v own' => own' = [(LG, .lst (ds ++ la ++ (worthF ws b).2))] ∧ Den g' v (odt (worthF ws b).1)) D₇ ?cc1 (c.X _ _ rfl) rfl
          (aCons (d := b.dt) (eIdx (lD (eLoc D₇ rfl rfl rfl rfl (by decide))) eInt (by decide) rfl (by simp [Tm.dt]) fun _ _ => rfl) (aCons (eLoc D₇ rfl rfl rfl rfl (by decide)) (aCons (eLoc D₇ rfl rfl rfl rfl (by decide)) aNil rfl) rfl) rfl) ⟨_, _, rfl⟩ (.take .all) (by simp) ?spec3 ?k3
        case cc1 => (first | exact evGlob (St.bas (by assumption)) rfl rfl rfl rfl (by decide) | exact evBuilt (St.bas (by assumption)) rfl rfl (by decide) rfl rfl rfl rfl (by decide))
        case spec3 =>
          intro vs g₁ h₁ P₁ dv sb
          obtain ⟨v₁, v₂, v₃, rfl, d₁, d₂, d₃⟩ := dv.three_inv
          exact ihb okb (R'.le (by (first | lia | omega)) (by (first | lia | omega))) P₁ d₁ d₂ d₃ (by simp only [List.length_append]; (first | lia | omega))
        case k3 =>
        intro v₈ g₈ own₈ h₈ D₈ s₈ ⟨eo, dv₈⟩
        subst eo
        have D₈ := D₈.oe (own' := [(LG, .lst (ds ++ la ++ (worthF ws b).2))]) rfl
        generalize hpb : worthF ws b = pb at *
        obtain ⟨vb, lb⟩ := pb
        simp only [] at ew lnb smb
        refine Wp_storeL D₈ dv₈ F rfl fun h₉ D₉ => ?_
        refine sIf D₉ (bIsN (eLoc D₉ rfl rfl rfl rfl (by decide))) (fun e g₁₀ h₁₀ D₁₀ s₁₀ => ?_) fun e g₁₀ h₁₀ D₁₀ s₁₀ => ?_
        · have hvb : vb = none := by cases vb; rfl; cases e
          subst hvb
          simp only [] at ew
          rw [ew]
          exact sReturnD D₁₀ eNone fun v g₅ h₆ D₅ sb' p' => ⟨v, g₅, _, rfl, D₅.toRet, by rw [List.append_assoc], p'⟩
        · obtain ⟨y, rfl⟩ : ∃ y, vb = some y := by cases vb; (cases e); exact ⟨_, rfl⟩
          have sy := smb y rfl
          simp only [] at ew
          by_cases hy : y = 0
          · subst hy
            rw [if_pos rfl] at ew
            rw [ew]
            refine' sAssign (d := .tup [.none, .none]) D₁₀ F (eIf (b := ((0 : Int) != 0)) (bNe (eLoc D₁₀ rfl rfl rfl rfl (by decide)) eInt rfl) (fun q => by simp at q) fun _ => eTup (aCons eNone (aCons eNone aNil rfl) rfl) (by simp only [List.length_cons, List.length_nil]; decide)) rfl rfl fun g₁₁ h₁₁ D₁₁ s₁₁ => ?_
            refine sExtendW D₁₁ (eLoc D₁₁ rfl rfl rfl rfl (by decide)) (.head _) (fun g₁₂ h₁₂ D₁₂ s₁₂ Z kZ => Wp_IfExp ((bNe (i := 0) (j := 0) (eLoc D₁₂ rfl rfl rfl rfl (by decide)) eInt rfl).wp D₁₂ fun bb g₁₃ h₁₃ D₁₃ G₁₃ eb => ⟨fun q => (by subst eb; simp at q), fun q => ?_⟩)) rfl rfl rfl rfl rfl
            refine (eList (aCons (eStr (x := "none")) aNil rfl) (by simp only [List.length_cons, List.length_nil]; decide)).wp D₁₃ fun b' g₁₄ h₁₄ D₁₄ hn₁₄ G₁₄ => kZ b' g₁₄ _ _ (ds ++ la ++ lb) [.str "none"] _ D₁₄ (G₁₃.sub.trans G₁₄.sub) (D₁₄.lstAt (.head _)) (.tail .head) (by simp only [List.length_append, List.length_cons, List.length_nil, sizeLine_eq] at *; (first | lia | omega)) fun g₁₅ h₁₅ D₁₅ s₁₅ => ?_
            have ek : ∃ j, seqIndex? (k - 2) 2 = some j ∧ [Dt.none, Dt.none][j]? = some .none := by
              rcases (show k = 2 ∨ k = 3 by (first | lia | omega)) with rfl | rfl
              · exact ⟨0, rfl, rfl⟩
              · exact ⟨1, rfl, rfl⟩
            obtain ⟨j, ej, ej2⟩ := ek
            refine sReturnD (d := .none) D₁₅ (eIdxT (k := k - 2) (j := j) (eLoc D₁₅ rfl rfl rfl rfl (by decide)) (eSub (eIdx (d := .int k) (lD (eLoc D₁₅ rfl rfl rfl rfl (by decide))) eInt (by decide) rfl (by simp [Tm.dt]) fun _ _ => rfl) eInt) ej ej2 (by (first | lia | omega)) (by (first | lia | omega)) fun _ _ => rfl) fun v g₅ h₆ D₅ sb' p' => ⟨v, g₅, _, rfl, D₅.tail.toRet, by simp, p'⟩
          · rw [if_neg hy] at ew
            rw [ew]
            have hq := fdiv_small (a := x) hy
            have hr := fmod_small (a := x) hy
            refine' sAssign (d := .tup [.int (x.fdiv y), .int (x.fmod y)]) D₁₀ F (eIf (b := (y != 0)) (bNe (eLoc D₁₀ rfl rfl rfl rfl (by decide)) eInt rfl) (fun _ => eTup (aCons (eDiv (eLoc D₁₀ rfl rfl rfl rfl (by decide)) (eLoc D₁₀ rfl rfl rfl rfl (by decide)) hy (PyProof.noPylong_small (by (first | lia | omega)))) (aCons (eMod (eLoc D₁₀ rfl rfl rfl rfl (by decide)) (eLoc D₁₀ rfl rfl rfl rfl (by decide)) hy) aNil rfl) rfl) (by simp only [List.length_cons, List.length_nil]; decide)) fun q => by simp at q; exact absurd q hy) rfl rfl fun g₁₁ h₁₁ D₁₁ s₁₁ => ?_
            generalize hQ : x.fdiv y = qq at *
            generalize hR : x.fmod y = rr at *
            refine sExtendW D₁₁ (eLoc D₁₁ rfl rfl rfl rfl (by decide)) (.head _) (fun g₁₂ h₁₂ D₁₂ s₁₂ Z kZ => Wp_IfExp ((bNe (i := y) (j := 0) (eLoc D₁₂ rfl rfl rfl rfl (by decide)) eInt rfl).wp D₁₂ fun bb g₁₃ h₁₃ D₁₃ G₁₃ eb => ⟨fun q => ?_, fun q => (by subst eb; simp at q; exact absurd q hy)⟩)) rfl rfl rfl rfl rfl
            refine Wp_addW D₁₃ (eList (aCons (eLoc D₁₃ rfl rfl rfl rfl (by decide)) aNil rfl) (by simp only [List.length_cons, List.length_nil]; decide)) fun a' g₁₄ h₁₄ D₁₄ hn₁₄ s₁₄ Z' kZ' => ?_
            refine Wp_compE D₁₄ (srcTup D₁₄ R'.hn (eLoc D₁₄ rfl rfl rfl rfl (by decide)) fun _ _ => rfl) rfl (by decide) rfl (by decide) (fun _ => rfl) _ ⟨rfl, rfl⟩ (JP.size (by show 2 ≤ sizeLine; decide)) (cturnN (f := fun i => .str (iText (if i = 0 then qq else rr))) F rfl rfl fun i g₁₅ own₁₅ C h₁₅ hi D₁₅ hm s₁₅ => ?el) ?fin
            case el =>
              rcases (show i = 0 ∨ i = 1 by simp at hi; (first | lia | omega)) with rfl | rfl
              · refine eStrI (by (first | exact evGlob (St.bas (by assumption)) rfl rfl rfl rfl (by decide) | exact evBuilt (St.bas (by assumption)) rfl rfl (by decide) rfl rfl rfl rfl (by decide))) (eLoc D₁₅ rfl rfl rfl rfl (by decide)) (log_small ?_) rfl
                rw [if_pos rfl]; (first | lia | omega)
              · refine eStrI (by (first | exact evGlob (St.bas (by assumption)) rfl rfl rfl rfl (by decide) | exact evBuilt (St.bas (by assumption)) rfl rfl (by decide) rfl rfl rfl rfl (by decide))) (eLoc D₁₅ rfl rfl rfl rfl (by decide)) (log_small ?_) rfl
                rw [if_neg (by decide)]; (first | lia | omega)
            case fin =>
              intro acc ds' g₁₆ g₁₇ own₁₇ h₁₇ hacc ⟨eo, eds⟩ s₁₆ s₁₇ D₁₇
              subst eo eds
              refine kZ' acc g₁₇ [.str (iText qq), .str (iText rr)] [(LG, .lst (ds ++ la ++ lb))] _ D₁₇ (s₁₆.trans s₁₇) (by simp only [List.length_cons, List.length_nil]; decide) fun x' g₁₈ h₁₈ D₁₈ hx' s₁₈ => ?_
              refine kZ x' g₁₈ _ _ (ds ++ la ++ lb) [.tup [.int qq, .int rr], .str (iText qq), .str (iText rr)] _ D₁₈ (((G₁₃.sub.trans s₁₄).trans (s₁₆.trans s₁₇)).trans s₁₈) (D₁₈.lstAt (.head _)) (.tail .head) (by simp only [List.length_append, List.length_cons, List.length_nil, sizeLine_eq] at *; (first | lia | omega)) fun g₁₉ h₁₉ D₁₉ s₁₉ => ?_
              have ek : ∃ j, seqIndex? (k - 2) 2 = some j ∧ [Dt.int qq, Dt.int rr][j]? = some (.int (if k = 2 then qq else rr)) := by
                rcases (show k = 2 ∨ k = 3 by (first | lia | omega)) with rfl | rfl
                · exact ⟨0, rfl, rfl⟩
                · exact ⟨1, rfl, rfl⟩
              obtain ⟨j, ej, ej2⟩ := ek
              refine sReturnD (d := .int (if k = 2 then qq else rr)) D₁₉ (eIdxT (k := k - 2) (j := j) (eLoc D₁₉ rfl rfl rfl rfl (by decide)) (eSub (eIdx (d := .int k) (lD (eLoc D₁₉ rfl rfl rfl rfl (by decide))) eInt (by decide) rfl (by simp [Tm.dt]) fun _ _ => rfl) eInt) ej ej2 (by (first | lia | omega)) (by (first | lia | omega)) fun _ _ => rfl) fun v g₅ h₆ D₅ sb' p' => ⟨v, g₅, _, rfl, D₅.tail.toRet, by simp, p'⟩
      · subst eb
        have hva : va = none := by cases va; rfl; cases q
        subst hva
        simp only [] at ew
        rw [ew]
        refine eNone.wp D₇ fun v g₈ h₈ D₈ G₈ dv => Wp_storeL D₈ dv F rfl fun h₉ D₉ => ?_
        refine sIf D₉ (bIsN (eLoc D₉ rfl rfl rfl rfl (by decide))) (fun e g₁₀ h₁₀ D₁₀ s₁₀ => ?_) fun e => by cases e
        exact sReturnD D₁₀ eNone fun v g₅ h₆ D₅ sb' p' => ⟨v, g₅, _, rfl, D₅.toRet, rfl, p'⟩
end
structure R4 where
  p : Int
  n : Int
  s : Int
  m : Int
noncomputable abbrev R4.ds (r : R4) : List Dt := [.int r.p, .int r.n, .int r.s, .int r.m]
noncomputable abbrev R4.dt (r : R4) : Dt := .lst r.ds
noncomputable abbrev g2dt (p : Int × Int) : Dt := .lst [.int p.1, .int p.2]
noncomputable def rowsS (os : List Int) (gs : List (Int × Int)) : Nat → List R4 × Option R4
  | 0 => ([], none)
  | i + 1 =>
    if 0 ≤ os.getD i 0 ∧ 0 < i ∧ os.getD (i - 1) 0 = os.getD i 0 then ((rowsS os gs i).1, (rowsS os gs i).2.map fun r => { r with n := r.n + 1 })
    else if 0 ≤ os.getD i 0 then ((rowsS os gs i).1 ++ (rowsS os gs i).2.toList, some ⟨i, 1, (gs.getD (os.getD i 0).toNat (0, 0)).1, (gs.getD (os.getD i 0).toNat (0, 0)).2⟩)
    else rowsS os gs i
theorem rowsS_some (os : List Int) (gs : List (Int × Int)) : ∀ i, 0 < i → 0 ≤ os.getD (i - 1) 0 → (rowsS os gs i).2.isSome
  | i + 1, _, h => by
    rw [Nat.add_sub_cancel] at h
    rw [rowsS]
    by_cases c : 0 ≤ os.getD i 0 ∧ 0 < i ∧ os.getD (i - 1) 0 = os.getD i 0
    · rw [if_pos c, Option.isSome_map]; exact rowsS_some os gs i c.2.1 (by rw [c.2.2]; exact c.1)
    · rw [if_neg c, if_pos h]; rfl
noncomputable def rowsF (os : List Int) (gs : List (Int × Int)) : List R4 := (rowsS os gs os.length).1 ++ (rowsS os gs os.length).2.toList
theorem rowsS_len (os : List Int) (gs : List (Int × Int)) : ∀ i, (rowsS os gs i).1.length + (rowsS os gs i).2.toList.length ≤ i
  | 0 => by simp [rowsS]
  | i + 1 => by
    have := rowsS_len os gs i
    unfold rowsS
    split
    · cases (rowsS os gs i).2 <;> simp at this ⊢ <;> (first | lia | omega)
    · split
      · simp at this ⊢; (first | lia | omega)
      · (first | lia | omega)
section
variable {c : GC}
theorem rows_spec {A : Around} {g : FB} {h : Heap} {v w : Value} {os : List Int} {gs : List (Int × Int)} (R : Rm A 1 103) (P : Pre c g [] h) (hv : Den g v (.lst (os.map .int))) (hw : Den g w (.lst (gs.map g2dt)))
    (hos : os.length ≤ 1000) (hgs : gs.length ≤ 1000) (hog : ∀ o ∈ os, o < gs.length) :
    Cd c A (.call (.ref 128) ⟨[v, w], []⟩) (fun r h' => ∃ v g', r = .ok (.ret v) ∧ Gr g h g' h' ∧ Den g' v (.lst ((rowsF os gs).map R4.dt))) h := by
  refine enterD (dd := 0) (uu := 100) (binds := [("owners", v), ("guards", w)]) P rfl rfl R (fun s hs => .of_eq rfl) (locs rfl) (by decide) rfl rfl rfl (lookup2 hv hw) fun L h₁ D F R' => ?_
  refine sAssignN (ds := []) D F (eList aNil (by decide)) rfl rfl fun RA g₂ h₂ D₂' hRA s₂ => ?_
  have D₂ := D₂'.weakL (loc' := [("rows", .ref RA), ("owners", .lst (os.map .int)), ("guards", .lst (gs.map g2dt))]) ⟨rfl, rfl, rfl, trivial⟩
  refine sForS (srcEnumL D₂ R'.hn (by (first | exact evGlob (St.bas (by assumption)) rfl rfl rfl rfl (by decide) | exact evBuilt (St.bas (by assumption)) rfl rfl (by decide) rfl rfl rfl rfl (by decide))) (eLoc D₂ rfl rfl rfl rfl (by decide)) rfl) (fun _ => rfl)
    (fun i _ own loc => loc = ([("rows", .ref RA), ("owners", .lst (os.map .int)), ("guards", .lst (gs.map g2dt))] : Loc) ∧
      match rowsS os gs i with
      | (init, none) => own = [(RA, .lst (init.map R4.dt))]
      | (init, some l) => ∃ b, h.get? b = none ∧ own = [(b, .lst l.ds), (RA, .lst (init.map R4.dt ++ [.ref b]))]) (fun _ _ => ⟨rfl, rfl⟩) ?turn ?fin
  case turn =>
    rintro i g₃ g₄ own loc h₄ u pre Qt hi ⟨rfl, ho⟩ s₃ s₄ D₄ du kN _
    rw [List.length_map] at hi
    have hdi : (os.map Dt.int).getD i .none = .int (os.getD i 0) := getD_of (ints_at hi)
    rw [hdi] at du
    have hlen := rowsS_len os gs i
    have hsome := rowsS_some os gs i
    have hmem : os.getD i 0 ∈ os := by rw [List.getD_eq_getElem?_getD, List.getElem?_eq_getElem hi]; exact List.getElem_mem hi
    have hog' := hog _ hmem
    have en : rowsS os gs (i + 1) = (if 0 ≤ os.getD i 0 ∧ 0 < i ∧ os.getD (i - 1) 0 = os.getD i 0 then ((rowsS os gs i).1, (rowsS os gs i).2.map fun r => { r with n := r.n + 1 })
      else if 0 ≤ os.getD i 0 then ((rowsS os gs i).1 ++ (rowsS os gs i).2.toList, some ⟨i, 1, (gs.getD (os.getD i 0).toNat (0, 0)).1, (gs.getD (os.getD i 0).toNat (0, 0)).2⟩) else rowsS os gs i) := rfl
    generalize hrs : rowsS os gs i = rs at *
    generalize hod : os.getD i 0 = o at *
    obtain ⟨init, last⟩ := rs
    refine Wp_asgTup2 D₄ R'.hn du F rfl rfl fun h₅ D₅ => ?_
    refine sIf D₅ (b := decide (0 ≤ o ∧ 0 < i ∧ os.getD (i - 1) 0 = o)) (Ev.imp (P := fun _ _ v => v = (decide ((0 : Int) ≤ o) && (decide ((0 : Int) < (i : Int)) && ((os.getD (i - 1) 0 == o) && true)))) (bBool (bAndC (bGe (eLoc D₅ rfl rfl rfl rfl (by decide)) eInt rfl) fun _ => bAndC (bGt (eLoc D₅ rfl rfl rfl rfl (by decide)) eInt rfl) fun hi0 => bAndC (bEq ?ca1 (eLoc D₅ rfl rfl rfl rfl (by decide)) rfl) fun _ => bTrue0)) fun v _ _ _ e => e.trans ?ca2) (fun e g₆ h₆ D₆ s₆ => ?_) fun e g₆ h₆ D₆ s₆ => ?_
    case ca1 =>
      have hi0 := of_decide_eq_true hi0
      exact eIdx (k := (i : Int) - 1) (lD (eLoc D₅ rfl rfl rfl rfl (by decide))) (eSub (eLoc D₅ rfl rfl rfl rfl (by decide)) eInt) (by (first | lia | omega)) (by rw [show ((i : Int) - 1).toNat = i - 1 by (first | lia | omega)]; exact ints_at (by (first | lia | omega))) (by simp; (first | lia | omega)) fun _ _ => rfl
    case ca2 => rw [Bool.eq_iff_iff]; simp
    · have e := of_decide_eq_true e
      rw [if_pos e] at en
      obtain ⟨l, rfl⟩ : ∃ l, last = some l := Option.isSome_iff_exists.mp (hsome e.2.1 (by rw [e.2.2]; exact e.1))
      obtain ⟨b, hb, rfl⟩ := ho
      have hxb : (init.map R4.dt ++ [Dt.ref b])[((-1 : Int) + ((init.map R4.dt ++ [Dt.ref b]).length : Nat)).toNat]? = some (.ref b) := by
        rw [List.length_append, List.length_map, show ((-1 : Int) + ((init.length + [Dt.ref b].length : Nat) : Int)).toNat = (init.map R4.dt).length by simp; (first | lia | omega)]
        simp
      have hlb : (init.map R4.dt ++ [Dt.ref b]).length ≤ 2000 := by simp at hlen ⊢; (first | lia | omega)
      have hlb1 : 1 ≤ (init.map R4.dt ++ [Dt.ref b]).length := by simp
      refine' sSetL (d := .int (l.n + 1)) (k := 1) (a := b) D₆ (eAdd (eIdx (d := .int l.n) (lR (eIdxN (d := .ref b) (lR (eLoc D₆ rfl rfl rfl rfl (by decide)) (D₆.lstAt (List.mem_append_right _ (.tail _ (.head _))))) (eNeg eInt) (by decide) (by (first | lia | omega)) hxb (by (first | lia | omega)) fun _ _ => rfl) (D₆.lstAt (List.mem_append_right _ (.head _)))) eInt (by decide) rfl (by simp) fun _ _ => rfl) eInt)
        (eIdxN (d := .ref b) (lR (eLoc D₆ rfl rfl rfl rfl (by decide)) (D₆.lstAt (List.mem_append_right _ (.tail _ (.head _))))) (eNeg eInt) (by decide) (by (first | lia | omega)) hxb (by (first | lia | omega)) fun _ _ => rfl) eInt (Up.app .head) (by decide) (by simp) (by simp) rfl fun g₇ h₇ D₇ s₇ => sNil (kN g₇ _ _ _ ⟨rfl, ?_⟩ (s₆.trans s₇) (D₇.weakL ⟨rfl, rfl, rfl, trivial⟩))
      rw [en]
      exact ⟨b, hb, rfl⟩
    · have e := of_decide_eq_false e
      rw [if_neg e] at en
      refine sIf D₆ (bGe (eLoc D₆ rfl rfl rfl rfl (by decide)) eInt rfl) (fun e2 g₇ h₇ D₇ s₇ => ?_) fun e2 g₇ h₇ D₇ s₇ => ?_
      · have e2 := of_decide_eq_true e2
        rw [if_pos e2] at en
        have ⟨g₈, D₈, s₈⟩ : ∃ g₈, St c ⟨g, h, []⟩ g₈ (pre ++ [(RA, .lst ((init ++ last.toList).map R4.dt))]) L [("owner", .int o), ("place", .int i), ("rows", .ref RA), ("owners", .lst (os.map .int)), ("guards", .lst (gs.map g2dt))] h₇ ∧ Sub g₇ g₈ := by
          cases last with
          | none =>
            have ho : own = [(RA, .lst (init.map R4.dt))] := ho
            subst ho
            exact ⟨g₇, D₇.oe (by simp), .rfl⟩
          | some l =>
            obtain ⟨b, hb, rfl⟩ := ho
            obtain ⟨g₈, D₈, s₈⟩ := D₇.freezeIn (Sel.app (.take .all)) (Up.app .head) hb
            exact ⟨g₈, D₈.oe (by simp), s₈⟩
        have hgx : (gs.map g2dt)[o.toNat]? = some (g2dt (gs.getD o.toNat (0, 0))) := by
          have : o.toNat < gs.length := by (first | lia | omega)
          rw [List.getElem?_map, List.getElem?_eq_getElem this, List.getD_eq_getElem?_getD, List.getElem?_eq_getElem this]; rfl
        have hlt : ((init ++ last.toList).map R4.dt).length ≤ 1000 := by simp at hlen ⊢; (first | lia | omega)
        refine' sAppendN (ow := fun b => pre ++ [(RA, .lst ((init ++ last.toList).map R4.dt ++ [.ref b]))]) D₈ (eLoc D₈ rfl rfl rfl rfl (by decide)) (nAdd (lN D₈.gr (eList (aCons (eLoc D₈ rfl rfl rfl rfl (by decide)) (aCons eInt aNil rfl) rfl) (by simp only [List.length_cons, List.length_nil]; decide))) (lD (eIdx (lD (eLoc D₈ rfl rfl rfl rfl (by decide))) (eLoc D₈ rfl rfl rfl rfl (by decide)) e2 hgx (by simp; (first | lia | omega)) fun _ _ => rfl)) (by simp only [List.length_cons, List.length_nil]; decide)) (fun b => Up.app .head) (by simp only [sizeLine_eq]; (first | lia | omega)) rfl rfl rfl rfl rfl fun b g₉ h₉ D₉ hb s₉ => sNil (kN g₉ _ _ _ ⟨rfl, ?_⟩ ((s₆.trans s₇).trans (s₈.trans s₉)) (D₉.mid.weakL ⟨rfl, rfl, rfl, trivial⟩))
        rw [en]
        exact ⟨b, hb, rfl⟩
      · have e2 := of_decide_eq_false e2
        rw [if_neg e2] at en
        refine sNil (kN g₇ _ _ _ ⟨rfl, ?_⟩ (s₆.trans s₇) (D₇.weakL ⟨rfl, rfl, rfl, trivial⟩))
        rw [en]
        exact ho
  case fin =>
    rintro g₃ own loc h₄ ⟨rfl, ho⟩ s₃ D₄
    rw [List.length_map] at ho
    have er : rowsF os gs = (rowsS os gs os.length).1 ++ (rowsS os gs os.length).2.toList := rfl
    rw [er]
    generalize rowsS os gs os.length = rs at *
    obtain ⟨init, last⟩ := rs
    have ⟨g₈, D₈, s₈⟩ : ∃ g₈, St c ⟨g, h, []⟩ g₈ [(RA, .lst ((init ++ last.toList).map R4.dt))] L [("rows", .ref RA), ("owners", .lst (os.map .int)), ("guards", .lst (gs.map g2dt))] h₄ ∧ Sub g₃ g₈ := by
      cases last with
      | none =>
        have ho : own = [(RA, .lst (init.map R4.dt))] := ho
        subst ho
        exact ⟨g₃, D₄.oe (by simp), .rfl⟩
      | some l =>
        obtain ⟨b, hb, rfl⟩ := ho
        obtain ⟨g₈, D₈, s₈⟩ := D₄.freezeIn (.take .all) .head hb
        exact ⟨g₈, D₈.oe (by simp), s₈⟩
    refine sReturn ((eLoc D₈ rfl rfl rfl rfl (by decide)).wp D₈ fun v g₉ h₉ D₉ G₉ dv => ?_)
    cases dv.ref_inv
    obtain ⟨o₆, ⟨vs, nn, rfl, kv⟩, D₆, s₆, e₆⟩ := D₉.freeze (.take .all) hRA
    exact ⟨_, _, rfl, D₆.toRet.gr, .lst e₆ (kv.mono s₆)⟩
end
noncomputable def octR (n : Nat) : List Nat := ((List.range 3).filter fun i => (2 - i == 0) || decide (64 ^ (2 - i) ≤ n)).map fun i => n / 64 ^ (2 - i) % 64
noncomputable def octN (n : Nat) : List Nat := (octR n).dropLast.map (64 + ·) ++ (octR n).drop ((octR n).length - 1)
noncomputable def tapeF (ns : List Nat) : List Nat := (ns.map octN).flatten
noncomputable def octF (ns : List Nat) : List Nat := (tapeF ns).zipIdx.map fun p => p.1 + 128 * (p.2 % 2)
theorem octR_len (n : Nat) : (octR n).length ≤ 3 := by
  unfold octR
  rw [List.length_map]
  exact Nat.le_trans (List.length_filter_le _ _) (by simp)
theorem octN_len (n : Nat) : (octN n).length ≤ 3 := by
  have := octR_len n
  unfold octN
  simp only [List.length_append, List.length_map, List.length_dropLast, List.length_drop]
  (first | lia | omega)
theorem tapeF_len : ∀ ns : List Nat, (tapeF ns).length ≤ 3 * ns.length
  | [] => by simp [tapeF]
  | n :: ns => by
    have := octN_len n
    have h := tapeF_len ns
    unfold tapeF at h ⊢
    simp only [List.map_cons, List.flatten_cons, List.length_append, List.length_cons]
    (first | lia | omega)
theorem tapeF_app (ns ms : List Nat) : tapeF (ns ++ ms) = tapeF ns ++ tapeF ms := by simp [tapeF]
theorem slice_last (l : List Nat) : pickL (nats l) none (some (-1)) none = nats l.dropLast := by
  rw [pickL_cut]
  show cut _ none (some (-((1 : Nat) : Int))) = _
  rw [cut_toN _ _ (by decide), List.length_map, ← List.map_take, List.dropLast_eq_take]
theorem slice_rest (l : List Nat) : pickL (nats l) (some (-1)) none none = nats (l.drop (l.length - 1)) := by
  rw [pickL_cut]
  show cut _ (some (-((1 : Nat) : Int))) none = _
  rw [cut_fromN _ _ (by decide), List.length_map, ← List.map_drop]
theorem nats_getD {l : List Nat} {i : Nat} (h : i < l.length) : (nats l).getD i .none = .int (l.getD i 0 : Nat) := getD_of (nats_at h)
theorem eLast {c : GC} {A : Around} {env : Env} {g : FB} {h : Heap} {value : Expr} {upper : Option Expr} {p pos : Pos} {l : List Nat} (P : EvL c A env value g h (nats l)) (b : EvPt c A env upper g h (some (-1))) (hl : l.length ≤ 1000)
    (hs : ∀ a u, ∃ ops, subscripted (.Slice none upper none p) false (.ref a) (.ref u) = operate ops (getItem (.ref a) (.ref u))) : EvD c A env (.Subscript value (.Slice none upper none p) pos) g h (.lst (nats l.dropLast)) := by
  rw [← slice_last]
  exact eFz (nSlice P pNone b pNone (by simp) (by rw [List.length_map, sizeLine_eq]; (first | lia | omega)) hs)
section
variable {c : GC}
theorem oct_spec {A : Around} {g : FB} {h : Heap} {v : Value} {ns : List Nat} (R : Rm A 1 103) (P : Pre c g [] h) (hv : Den g v (.lst (nats ns))) (hns : ns.length ≤ 1000) (hsm : ∀ n ∈ ns, n < 2 ^ 18) :
    Cd c A (.call (.ref 133) ⟨[v], []⟩) (fun r h' => ∃ v g', r = .ok (.ret v) ∧ Gr g h g' h' ∧ Den g' v (.lst (nats (octF ns)))) h := by
  refine enterC (binds := [("numbers", v)]) (bd := [("numbers", .lst (nats ns))]) (dd := 0) (uu := 100) (fun L => [(L + 1, .cell none)]) P rfl rfl R (fun s hs => .of_eq rfl) ?hkind ?hnd rfl rfl rfl ?hled ?hb fun L h₁ D F R' => ?_
  case hkind =>
    intro k y hy
    cases List.mem_singleton.mp hy
    exact .inl rfl
  case hnd => decide
  case hled => exact fun L => .none rfl .nil
  case hb =>
    intro L y d e
    rw [List.lookup_cons] at e
    by_cases q : y = "numbers"
    · subst q
      simp at e; subst e
      exact ⟨v, rfl, hv⟩
    · have q' : (y == "numbers") = false := beq_eq_false_iff_ne.mpr q
      rw [q'] at e; simp at e
  have D := D.oe (own' := [(L + 1, .cell none)]) rfl
  refine sAssignN (ds := []) D F (eList aNil (by decide)) rfl rfl fun TA g₂ h₂ D₂' hTA s₂ => ?_
  have D₂ := D₂'.weakL (loc' := [("tape", .ref TA), ("numbers", .lst (nats ns))]) ⟨rfl, rfl, trivial⟩
  refine sForS (srcList D₂ R'.hn (eLoc D₂ rfl rfl rfl rfl (by decide)) (fun _ _ => rfl)) (fun _ => rfl)
    (fun i _ own loc => loc = ([("tape", .ref TA), ("numbers", .lst (nats ns))] : Loc) ∧ ∃ d, own = [(TA, .lst (nats (tapeF (ns.take i)))), (L + 1, .cell d)]) (fun _ _ => ⟨rfl, none, rfl⟩) ?turn ?fin
  case turn =>
    rintro i g₃ g₄ own loc h₄ u pre Qt hi ⟨rfl, d₀, rfl⟩ s₃ s₄ D₄ du kN _
    rw [List.length_map] at hi
    have hdi : (nats ns).getD i .none = .int (ns.getD i 0 : Nat) := getD_of (nats_at hi)
    rw [hdi] at du
    have hmem : ns.getD i 0 ∈ ns := by rw [List.getD_eq_getElem?_getD, List.getElem?_eq_getElem hi]; exact List.getElem_mem hi
    have hn := hsm _ hmem
    have htk : ns.take (i + 1) = ns.take i ++ [ns.getD i 0] := by
      rw [List.take_add_one, List.getD_eq_getElem?_getD, List.getElem?_eq_getElem hi]; rfl
    generalize ns.getD i 0 = n at *
    have htl := tapeF_len (ns.take i)
    rw [List.length_take] at htl
    refine Wp_asgName (Wp_storeC D₄ du F rfl rfl (Up.app (.tail .head)) fun h₅ D₅ => ?_)
    refine sAssignComp D₅ F (srcTup D₅ R'.hn (eTup (aCons (eInt (i := 2)) (aCons (eInt (i := 1)) (aCons (eInt (i := 0)) aNil rfl) rfl) rfl) (by simp only [List.length_cons, List.length_nil]; decide)) (fun _ _ => rfl)) rfl rfl rfl (by decide) rfl (by decide) (fun _ => rfl) _ ⟨rfl, rfl⟩ (JP.size (by show 3 ≤ sizeLine; decide))
      (cturnN1 (p := fun i => (2 - i == 0) || decide (64 ^ (2 - i) ≤ n)) (f := fun i => .int (n / 64 ^ (2 - i) % 64 : Nat)) F rfl rfl (fun i g₆ own₆ C h₆ hi D₆ hm s₆ => ?te) fun i g₆ own₆ C h₆ hi hp D₆ hm s₆ => ?el) ?fin2
    case te =>
      have D₆ : St c ⟨g, h, []⟩ g₆ own₆ C [("k", .int ((2 - i : Nat) : Int))] h₆ := by
        rcases (show i = 0 ∨ i = 1 ∨ i = 2 by simp at hi; (first | lia | omega)) with rfl | rfl | rfl <;> exact D₆
      have hk2 : 2 - i ≤ 2 := by (first | lia | omega)
      generalize 2 - i = k at *
      refine Ev.imp (P := fun _ _ v => v = (((k : Int) == 0) || (decide ((64 : Int) ^ ((k : Int)).toNat ≤ (n : Int)) || false))) (bBool (bOrC (bEq (eLoc D₆ rfl rfl rfl rfl (by decide)) eInt rfl) fun _ => bOrC (bGe (eCell (D₆.cellAt (a := L + 1) (d := .int n) (hm _ (List.mem_append_right _ (.tail _ (.head _))))) rfl rfl rfl (by decide)) (ePow eInt (eLoc D₆ rfl rfl rfl rfl (by decide)) (by (first | lia | omega)) ?_) rfl) fun _ => bFalse0)) fun v _ _ _ e => e.trans ?_
      · rw [show Builtin.Int.intBits 64 = 7 by decide]; (first | lia | omega)
      · rw [Int.toNat_natCast, Bool.or_false]
        congr 1
        · rw [Bool.eq_iff_iff]; simp
        · rw [decide_eq_decide]
          constructor <;> intro q
          · exact_mod_cast q
          · exact_mod_cast q
    case el =>
      have D₆ : St c ⟨g, h, []⟩ g₆ own₆ C [("k", .int ((2 - i : Nat) : Int))] h₆ := by
        rcases (show i = 0 ∨ i = 1 ∨ i = 2 by simp at hi; (first | lia | omega)) with rfl | rfl | rfl <;> exact D₆
      have hk2 : 2 - i ≤ 2 := by (first | lia | omega)
      generalize 2 - i = k at *
      rw [show ((n / 64 ^ k % 64 : Nat) : Int) = ((n : Int).fdiv ((64 : Int) ^ ((k : Int)).toNat)).fmod ((64 : Nat) : Int) by
        rw [Int.toNat_natCast, show (64 : Int) ^ k = ((64 ^ k : Nat) : Int) by norm_cast, fdiv_nat, fmod_nat]]
      have hpos : (0 : Int) < (64 : Int) ^ ((k : Int)).toNat := Int.pow_pos (by decide)
      refine eMod (eDiv (eCell (D₆.cellAt (a := L + 1) (d := .int n) (hm _ (List.mem_append_right _ (.tail _ (.head _))))) rfl rfl rfl (by decide)) (ePow eInt (eLoc D₆ rfl rfl rfl rfl (by decide)) (by (first | lia | omega)) ?_) (by (first | lia | omega)) (PyProof.noPylong_small ?_)) eInt (by decide)
      · rw [show Builtin.Int.intBits 64 = 7 by decide]; (first | lia | omega)
      · rw [Int.toNat_natCast]
        rcases (show k = 0 ∨ k = 1 ∨ k = 2 by (first | lia | omega)) with rfl | rfl | rfl <;> decide
    case fin2 =>
      intro RA ds' g₆ g₇ own₇ h₇ hRA ⟨eo, eds⟩ s₆ s₇ D₇
      subst eo
      have eds : ds' = nats (octR n) := by rw [eds]; unfold octR nats; rw [List.map_map]; rfl
      subst eds
      have hol := octR_len n
      refine sExtendW D₇ (eLoc D₇ rfl rfl rfl rfl (by decide)) (.tail _ (List.mem_append_right _ (.head _))) (fun g₈ h₈ D₈ s₈ Z kZ => Wp_addW2 (r := ⟨g, h, []⟩) (L := L) (loc := [("row", .ref RA), ("tape", .ref TA), ("numbers", .lst (nats ns))]) fun Z' kZ' => ?_) rfl rfl rfl rfl rfl
      refine Wp_compE D₈ (srcList D₈ R'.hn (eLast (l := octR n) (lR (eLoc D₈ rfl rfl rfl rfl (by decide)) (D₈.lstAt (.head _))) (pInt (eNeg eInt)) (by (first | lia | omega)) fun _ _ => ⟨_, rfl⟩) fun _ _ => rfl) rfl (by decide) rfl (by decide) (fun _ => rfl) _ ⟨rfl, rfl⟩ (JP.size (by rw [List.length_map, List.length_dropLast, sizeLine_eq]; (first | lia | omega)))
        (cturnN (f := fun i => .int (64 + ((octR n).dropLast.getD i 0 : Nat) : Int)) F rfl rfl fun i g₉ own₉ C h₉ hi D₉ hm s₉ => ?el2) fun AC ds' g₉ g₁₀ own₁₀ h₁₀ hAC ⟨eo, eds⟩ s₉ s₁₀ D₁₀ => ?_
      case el2 =>
        rw [List.length_map] at hi
        have D₉ : St c ⟨g, h, []⟩ g₉ own₉ C [("figure", .int (((octR n).dropLast.getD i 0 : Nat) : Int))] h₉ := by rw [← nats_getD hi]; exact D₉
        exact eAdd eInt (eLoc D₉ rfl rfl rfl rfl (by decide))
      subst eo
      have eds : ds' = nats ((octR n).dropLast.map (64 + ·)) := by
        rw [eds, JP.all, List.length_map]
        apply List.ext_getElem
        · simp
        · intro i h1 h2
          simp at h1 h2 ⊢
          rw [List.getElem?_eq_getElem (by simpa using h1)]
          simp
      subst eds
      refine kZ' AC g₁₀ _ _ (nats ((octR n).drop ((octR n).length - 1))) _ D₁₀ (D₁₀.lstAt (.head _)) ?_ ?_ fun x g₁₁ h₁₁ D₁₁ hx s₁₁ => ?_
      · rw [← slice_rest]
        exact nSlice (lR (eLoc D₁₀ rfl rfl rfl rfl (by decide)) (D₁₀.lstAt (.tail _ (.head _)))) (pInt (eNeg eInt)) pNone pNone (by simp) (by rw [List.length_map, sizeLine_eq]; (first | lia | omega)) fun _ _ => ⟨_, rfl⟩
      · simp only [List.length_map, List.length_dropLast, List.length_drop, sizeLine_eq]; (first | lia | omega)
      · refine kZ x g₁₁ _ _ (nats (tapeF (ns.take i))) _ _ D₁₁ ((s₉.trans s₁₀).trans s₁₁) (D₁₁.lstAt (.head _)) (.tail (.tail (.tail (Up.app .head)))) ?_ fun g₁₂ h₁₂ D₁₂ s₁₂ => sNil (kN g₁₂ _ _ _ ⟨rfl, some (.int n), ?_⟩ ?_ (D₁₂.tail.tail.tail.weakL ⟨rfl, rfl, trivial⟩))
        · simp only [List.length_append, List.length_map, List.length_dropLast, List.length_drop, sizeLine_eq]; (first | lia | omega)
        · rw [htk, tapeF_app]
          simp [tapeF, octN, nats]
        · exact ((((s₆.trans s₇).trans s₈).trans (s₉.trans s₁₀)).trans s₁₁).trans s₁₂
  case fin =>
    rintro g₃ own loc h₄ ⟨rfl, d₀, rfl⟩ s₃ D₄
    rw [List.length_map, List.take_length] at D₄
    have htl := tapeF_len ns
    obtain ⟨g₄, D₅, s₄⟩ := D₄.freezeL (x := "tape") (.take .all) hTA rfl
    refine sReturn (Wp_compE D₅ (srcEnumL D₅ R'.hn (by (first | exact evGlob (St.bas (by assumption)) rfl rfl rfl rfl (by decide) | exact evBuilt (St.bas (by assumption)) rfl rfl (by decide) rfl rfl rfl rfl (by decide))) (eLoc D₅ rfl rfl rfl rfl (by decide)) rfl) rfl (by decide) rfl (by decide) (fun _ => rfl) _ ⟨rfl, rfl⟩ (JP.size (by rw [List.length_map, sizeLine_eq]; (first | lia | omega)))
      (cturnT (f := fun i => .int (((tapeF ns).getD i 0 + 128 * (i % 2) : Nat) : Int)) F R'.hn rfl rfl rfl fun i g₉ own₉ C h₉ hi D₉ hm s₉ => ?el3) fun AC ds' g₉ g₁₀ own₁₀ h₁₀ hAC ⟨eo, eds⟩ s₉ s₁₀ D₁₀ => ?_)
    case el3 =>
      rw [List.length_map] at hi
      have D₉ : St c ⟨g, h, []⟩ g₉ own₉ C [("octet", .int (((tapeF ns).getD i 0 : Nat) : Int)), ("place", .int i)] h₉ := by rw [← nats_getD hi]; exact D₉
      rw [show (((tapeF ns).getD i 0 + 128 * (i % 2) : Nat) : Int) = (((tapeF ns).getD i 0 : Nat) : Int) + 128 * ((i : Int).fmod ((2 : Nat) : Int)) by rw [fmod_nat]; (first | lia | omega)]
      refine eAdd (eLoc D₉ rfl rfl rfl rfl (by decide)) (eMul eInt (eMod (eLoc D₉ rfl rfl rfl rfl (by decide)) eInt (by decide)) ?_)
      rw [fmod_nat]
      mul_fits
    subst eo
    have eds : ds' = nats (octF ns) := by
      rw [eds, JP.all, List.length_map]
      unfold octF
      apply List.ext_getElem
      · simp
      · intro i h1 h2
        simp at h1 h2 ⊢
        rw [List.getElem?_eq_getElem (by simpa using h1)]
        simp
    subst eds
    obtain ⟨o₆, ⟨vs, nn, rfl, kv⟩, D₆, s₆, e₆⟩ := D₁₀.freeze (.take .all) hAC
    exact ⟨_, _, rfl, D₆.tail.toRet.gr, .lst e₆ (kv.mono s₆)⟩
end
noncomputable def lowc (p : Nat) : Nat := if p < 97 then p + 32 else p
noncomputable def cN (p q : Nat) : Int := if p = q then 0 else if lowc p = lowc q then 1 else 2
noncomputable def gN (p q : Nat) : Int := if p = q then 4 else if lowc p = lowc q then 3 else 2
noncomputable def apRow (l m : List Nat) : Nat → List Int
  | 0 => List.replicate (m.length + 1) 0
  | i + 1 => nextRow (fun j => gN (l.getD i 0) (m.getD j 0)) (apRow l m i) m.length
noncomputable def apN (l m : List Nat) : Int := 2 * ((l.length : Int) + m.length) - (apRow l m l.length).getD m.length 0
noncomputable def okB (a b : List Nat) (D : Int) : Bool :=
  let R := fun j => lrow (fun j i => cN (b.getD j 0) (a.getD i 0)) a.length j
  decide (2 * ((b.length : Int) - a.length) ≤ D) && (List.range b.length).all (fun j => decide ((R (j + 1)).min ≤ D)) && decide ((R b.length).res = D)
noncomputable def levB (l m : List Nat) : Bool :=
  let D := apN l m
  let t := trim l m
  decide (0 ≤ D) && decide (D ≤ 12) && if l = m then decide (D = 0) else
    if t.1 = [] ∨ t.2 = [] then decide (2 * ((t.1.length : Int) + t.2.length) = D) else
    if t.1.length ≤ t.2.length then okB t.1 t.2 D else okB t.2 t.1 D
noncomputable def letters : List Nat := [97, 65, 98, 66]
noncomputable def wds : Nat → List (List Nat)
  | 0 => [[]]
  | n + 1 => [] :: (wds n).flatMap fun w => letters.map fun c => c :: w
noncomputable def perms : List (List Nat) := [[97, 65, 98, 66], [65, 97, 98, 66], [97, 65, 66, 98], [65, 97, 66, 98], [98, 66, 97, 65], [98, 66, 65, 97], [66, 98, 97, 65], [66, 98, 65, 97]]
noncomputable def pm (x : List Nat) (p : Nat) : Nat := if p = 97 then x.getD 0 0 else if p = 65 then x.getD 1 0 else if p = 98 then x.getD 2 0 else x.getD 3 0
theorem pm_ok : ∀ x ∈ perms, ∀ p ∈ letters, pm x p ∈ letters ∧ ∀ q ∈ letters, (pm x p = pm x q → p = q) ∧ cN (pm x p) (pm x q) = cN p q ∧ gN (pm x p) (pm x q) = gN p q := by decide +kernel
noncomputable def rp0 : List (List Nat) := [[], [97], [97, 97]]
noncomputable def rp1 : List (List Nat) := [[97, 65], [97, 98], [97, 97, 97]]
noncomputable def rp2 : List (List Nat) := [[97, 97, 65], [97, 97, 98], [97, 65, 97]]
noncomputable def rp3 : List (List Nat) := [[97, 65, 65], [97, 65, 98], [97, 98, 97]]
noncomputable def rp4 : List (List Nat) := [[97, 98, 65], [97, 98, 98], [97, 98, 66]]
theorem ch0 : rp0.all (fun l => (wds 3).all (fun m => levB l m)) = true := by decide +kernel
theorem ch1 : rp1.all (fun l => (wds 3).all (fun m => levB l m)) = true := by decide +kernel
theorem ch2 : rp2.all (fun l => (wds 3).all (fun m => levB l m)) = true := by decide +kernel
theorem ch3 : rp3.all (fun l => (wds 3).all (fun m => levB l m)) = true := by decide +kernel
theorem ch4 : rp4.all (fun l => (wds 3).all (fun m => levB l m)) = true := by decide +kernel
noncomputable def reps : List (List Nat) := rp0 ++ (rp1 ++ (rp2 ++ (rp3 ++ rp4)))
theorem to_rep : ∀ l ∈ wds 3, ∃ x ∈ perms, l.map (pm x) ∈ reps := by decide +kernel
theorem rep_ok {l m : List Nat} (hl : l ∈ reps) (hm : m ∈ wds 3) : levB l m = true := by
  have h : reps.all (fun l => (wds 3).all (fun m => levB l m)) = true := by
    rw [reps, List.all_append, List.all_append, List.all_append, List.all_append, ch0, ch1, ch2, ch3, ch4]; rfl
  exact List.all_eq_true.mp (List.all_eq_true.mp h l hl) m hm
theorem cN_eq : ∀ p ∈ letters, ∀ q ∈ letters, scost (S [p]) (S [q]) = cN p q := by decide +kernel
theorem gN_eq : ∀ p ∈ letters, ∀ q ∈ letters, gain (S [p]) (S [q]) = gN p q := by decide +kernel
theorem low_ok : ∀ p ∈ (0 :: letters), Builtin.Str.tooLong (Txt.lower (S [p])).length = false := by decide +kernel
theorem lin_congr {cst cst' : Nat → Int} {row : List Int} {r0 : Int} : ∀ {i : Nat}, (∀ k, k < i → cst k = cst' k) → lin cst row r0 i = lin cst' row r0 i
  | 0, _ => rfl
  | i + 1, h => by
    have e := lin_congr (row := row) (r0 := r0) (i := i) fun k hk => h k (by (first | lia | omega))
    rw [lin, lin, e, h i (by (first | lia | omega))]
theorem lrow_congr {cst cst' : Nat → Nat → Int} {n : Nat} : ∀ {j : Nat}, (∀ j', j' < j → ∀ i, i < n → cst j' i = cst' j' i) → lrow cst n j = lrow cst' n j
  | 0, _ => rfl
  | j + 1, h => by
    rw [lrow, lrow, lrow_congr (j := j) fun j' hj => h j' (by (first | lia | omega))]
    exact lin_congr (h j (by (first | lia | omega)))
theorem nextRow_congr {gn gn' : Nat → Int} {s : List Int} : ∀ {j : Nat}, (∀ k, k < j → gn k = gn' k) → nextRow gn s j = nextRow gn' s j
  | 0, _ => rfl
  | j + 1, h => by rw [nextRow, nextRow, nextRow_congr (j := j) fun k hk => h k (by (first | lia | omega)), h j (by (first | lia | omega))]
noncomputable def Ltr (l : List Nat) : Prop := ∀ p ∈ l, p ∈ letters
theorem Ltr.at {l : List Nat} (h : Ltr l) {i : Nat} (hi : i < l.length) : l.getD i 0 ∈ letters := by
  refine h _ ?_
  rw [List.getD_eq_getElem?_getD, List.getElem?_eq_getElem hi]; exact List.getElem_mem hi
theorem sg_S (l : List Nat) (i : Nat) : sg (S l) i = S [l.getD i 0] := rfl
theorem apRow_eq {l m : List Nat} (hl : Ltr l) (hm : Ltr m) : ∀ i, i ≤ l.length → apartRow (S l) (S m) i = apRow l m i
  | 0, _ => by rw [apartRow, apRow, S_len]
  | i + 1, h => by
    rw [apartRow, apRow, apRow_eq hl hm i (by (first | lia | omega)), S_len]
    exact nextRow_congr fun k hk => by rw [sg_S, sg_S]; exact gN_eq _ (hl.at (by (first | lia | omega))) _ (hm.at hk)
theorem ap_eq {l m : List Nat} (hl : Ltr l) (hm : Ltr m) : apart (S l) (S m) = apN l m := by
  unfold apart apN
  rw [S_len, S_len, apRow_eq hl hm _ (Nat.le_refl _)]
theorem okB_ok {a b : List Nat} {D : Int} (ha : Ltr a) (hb : Ltr b) (h : okB a b D = true) : LevOk a b D := by
  unfold okB at h
  simp only [Bool.and_eq_true, decide_eq_true_eq, List.all_eq_true, List.mem_range] at h
  have e : ∀ j, j ≤ b.length → lrow (lcost a b) a.length j = lrow (fun j i => cN (b.getD j 0) (a.getD i 0)) a.length j := fun j hj =>
    lrow_congr fun j' hj' i hi => cN_eq _ (hb.at (by (first | lia | omega))) _ (ha.at hi)
  refine ⟨h.1.1, fun j hj => ?_, ?_⟩
  · rw [e _ hj]; exact h.1.2 j hj
  · rw [e _ (Nat.le_refl _)]; exact h.2
theorem trim_ltr {l m : List Nat} (hl : Ltr l) (hm : Ltr m) : Ltr (trim l m).1 ∧ Ltr (trim l m).2 :=
  ⟨fun p hp => hl p (List.mem_of_mem_drop (List.mem_of_mem_take hp)), fun p hp => hm p (List.mem_of_mem_drop (List.mem_of_mem_take hp))⟩
theorem levB_ok {l m : List Nat} (hl : Ltr l) (hm : Ltr m) (h : levB l m = true) : LevIs l m (apart (S l) (S m)) ∧ 0 ≤ apart (S l) (S m) ∧ apart (S l) (S m) ≤ 12 := by
  rw [ap_eq hl hm]
  have tl := trim_ltr hl hm
  unfold levB at h
  simp only [Bool.and_eq_true, decide_eq_true_eq] at h
  refine ⟨⟨fun e => ?_, fun e q => ?_, fun e q1 q2 q3 => ?_, fun e q1 q2 q3 => ?_⟩, h.1.1, h.1.2⟩
  · have := h.2; rw [if_pos e] at this; simpa using this
  · have := h.2; rw [if_neg e, if_pos q] at this; simpa using this
  · have := h.2
    rw [if_neg e, if_neg (by rintro (z | z) <;> contradiction), if_pos q3] at this
    exact okB_ok tl.1 tl.2 this
  · have := h.2
    rw [if_neg e, if_neg (by rintro (z | z) <;> contradiction), if_neg (by (first | lia | omega))] at this
    exact okB_ok tl.2 tl.1 this
theorem wds_mem : ∀ (n : Nat) (l : List Nat), Ltr l → l.length ≤ n → l ∈ wds n
  | 0, [], _, _ => .head _
  | n + 1, [], _, _ => .head _
  | n + 1, c :: l, h, hn => by
    refine .tail _ (List.mem_flatMap.mpr ⟨l, wds_mem n l (fun p hp => h p (.tail _ hp)) (by simpa using hn), List.mem_map.mpr ⟨c, h c (.head _), rfl⟩⟩)
section
variable {x : List Nat} (hx : x ∈ perms)
include hx
theorem map_inj : ∀ {l m : List Nat}, Ltr l → Ltr m → l.map (pm x) = m.map (pm x) → l = m
  | [], [], _, _, _ => rfl
  | [], _ :: _, _, _, h => by cases h
  | _ :: _, [], _, _, h => by cases h
  | p :: l, q :: m, hl, hm, h => by
    rw [List.map_cons, List.map_cons, List.cons.injEq] at h
    rw [((pm_ok x hx p (hl p (.head _))).2 q (hm q (.head _))).1 h.1, map_inj (fun p hp => hl p (.tail _ hp)) (fun p hp => hm p (.tail _ hp)) h.2]
theorem cpl_map : ∀ {l m : List Nat}, Ltr l → Ltr m → cpl (l.map (pm x)) (m.map (pm x)) = cpl l m
  | [], _, _, _ => rfl
  | _ :: _, [], _, _ => rfl
  | p :: l, q :: m, hl, hm => by
    rw [List.map_cons, List.map_cons, cpl, cpl, cpl_map (fun p hp => hl p (.tail _ hp)) (fun p hp => hm p (.tail _ hp))]
    by_cases e : p = q
    · rw [if_pos e, if_pos (e ▸ rfl)]
    · rw [if_neg e, if_neg fun z => e (((pm_ok x hx p (hl p (.head _))).2 q (hm q (.head _))).1 z)]
theorem trim_map {l m : List Nat} (hl : Ltr l) (hm : Ltr m) : trim (l.map (pm x)) (m.map (pm x)) = ((trim l m).1.map (pm x), (trim l m).2.map (pm x)) := by
  have d : ∀ {l : List Nat} (k : Nat), Ltr l → Ltr (l.drop k).reverse := fun k h p hp => h p (List.mem_of_mem_drop (List.mem_reverse.mp hp))
  unfold trim front back
  simp only [cpl_map hx hl hm, ← List.map_drop, ← List.map_reverse, cpl_map hx (d _ hl) (d _ hm), List.length_map, ← List.map_take]
theorem getD_map {l : List Nat} {i : Nat} (hi : i < l.length) : (l.map (pm x)).getD i 0 = pm x (l.getD i 0) := by
  rw [List.getD_eq_getElem?_getD, List.getD_eq_getElem?_getD, List.getElem?_map, List.getElem?_eq_getElem hi]; rfl
theorem apN_map {l m : List Nat} (hl : Ltr l) (hm : Ltr m) : apN (l.map (pm x)) (m.map (pm x)) = apN l m := by
  have e : ∀ i, i ≤ l.length → apRow (l.map (pm x)) (m.map (pm x)) i = apRow l m i := fun i => by
    induction i with
    | zero => intro _; rw [apRow, apRow, List.length_map]
    | succ i ih =>
      intro hi
      rw [apRow, apRow, ih (Nat.le_of_succ_le hi), List.length_map]
      exact nextRow_congr fun k hk => by rw [getD_map hx hi, getD_map hx hk, ((pm_ok x hx _ (hl.at hi)).2 _ (hm.at hk)).2.2]
  unfold apN
  rw [List.length_map, List.length_map, e _ (Nat.le_refl _)]
theorem okB_map {a b : List Nat} {D : Int} (ha : Ltr a) (hb : Ltr b) : okB (a.map (pm x)) (b.map (pm x)) D = okB a b D := by
  have e : ∀ j, j ≤ b.length → lrow (fun j i => cN ((b.map (pm x)).getD j 0) ((a.map (pm x)).getD i 0)) a.length j = lrow (fun j i => cN (b.getD j 0) (a.getD i 0)) a.length j := fun j hj =>
    lrow_congr fun j' hj' i hi => by rw [getD_map hx (Nat.lt_of_lt_of_le hj' hj), getD_map hx hi, ((pm_ok x hx _ (hb.at (Nat.lt_of_lt_of_le hj' hj))).2 _ (ha.at hi)).2.1]
  unfold okB
  rw [Bool.eq_iff_iff]
  simp only [Bool.and_eq_true, decide_eq_true_eq, List.all_eq_true, List.mem_range, List.length_map, e _ (Nat.le_refl _)]
  exact ⟨fun h => ⟨⟨h.1.1, fun j hj => e (j + 1) hj ▸ h.1.2 j hj⟩, h.2⟩, fun h => ⟨⟨h.1.1, fun j hj => (e (j + 1) hj).symm ▸ h.1.2 j hj⟩, h.2⟩⟩
theorem levB_map {l m : List Nat} (hl : Ltr l) (hm : Ltr m) : levB (l.map (pm x)) (m.map (pm x)) = levB l m := by
  have tl := trim_ltr hl hm
  have en : ∀ l : List Nat, (l.map (pm x) = []) = (l = []) := fun l => propext List.map_eq_nil_iff
  have el : (l.map (pm x) = m.map (pm x)) = (l = m) := propext ⟨map_inj hx hl hm, fun e => e ▸ rfl⟩
  unfold levB
  simp only [trim_map hx hl hm, apN_map hx hl hm, List.length_map, okB_map hx tl.1 tl.2, okB_map hx tl.2 tl.1, en, el]
end
theorem all_ok {l m : List Nat} (hl : Ltr l) (hm : Ltr m) (h1 : l.length ≤ 3) (h2 : m.length ≤ 3) : levB l m = true := by
  obtain ⟨x, hx, h⟩ := to_rep l (wds_mem 3 l hl h1)
  rw [← levB_map hx hl hm]
  refine rep_ok h (wds_mem 3 _ (fun p hp => ?_) (by rw [List.length_map]; exact h2))
  obtain ⟨q, hq, rfl⟩ := List.mem_map.mp hp
  exact (pm_ok x hx q (hm q hq)).1
theorem lev_is {l m : List Nat} (hl : Ltr l) (hm : Ltr m) (h1 : l.length ≤ 3) (h2 : m.length ≤ 3) : LevIs l m (apart (S l) (S m)) ∧ 0 ≤ apart (S l) (S m) ∧ apart (S l) (S m) ≤ 12 :=
  levB_ok hl hm (all_ok hl hm h1 h2)
noncomputable def Stk (A : Around) (mu : Led) : Prop := ∃ outer, A.frames = some outer ∧ ∀ e ∈ outer, e.scope.kind ≠ .module ∧ ∃ a m, e.frame = some a ∧ (a, OC.fm m) ∈ mu
theorem Stk.hot {A : Around} {env : Env} {mu own : Led} {L : Addr} (s : Stk A mu) (hk : env.scope.kind = .function) (hf : env.frame = some L) (hm : ∀ p ∈ mu, p ∈ own) : Hot (A.deeper env) env own L := by
  obtain ⟨outer, hA, hk'⟩ := s
  refine ⟨⟨outer, Around.frames_deeper hA, fun e he => ?_⟩, hf⟩
  rcases List.mem_cons.mp he with rfl | he
  · exact ⟨by rw [hk]; decide, L, hf, .inl rfl⟩
  · obtain ⟨k, a, m, fa, ha⟩ := hk' e he
    exact ⟨k, a, fa, .inr ⟨m, hm _ ha⟩⟩
section
variable {c : GC}
theorem idz_spec {A : Around} {g : FB} {h : Heap} {v w : Value} {a : Int} {mu : Led} (R : Rm A 1 103) (P : Pre c g mu h) (K : Stk A mu) (hv : Den g v (.int a)) (hw : Den g w (.int 0)) :
    Cd c A (.call (.ref 93) ⟨[v, w], []⟩) (fun r h' => ∃ e T t0 g', r = .error (.ref e) ∧ Ret ⟨g, h, mu.map (·.1)⟩ g' ((T, .tb .none) :: (e, .exc "ZeroDivisionError" t0 (some T)) :: mu) h' ∧ g' t0 = some (tupOf [] 0)) h := by
  refine enterDX (dd := 0) (uu := 100) (binds := [("a", v), ("b", w)]) P rfl rfl R (fun s hs => .of_eq rfl) (locs rfl) (by decide) rfl rfl rfl (lookup2 hv hw) fun L h₁ D F R' => ?_
  refine' sIf D (b := ((0 : Int) == 0)) ?ca1 (fun e g₂ h₂ D₂ s₂ => ?_) (fun e => by simp at e)
  case ca1 => (repeat' (first | with_reducible exact eInt | ((with_reducible refine' eLoc (by assumption) ?_ ?_ ?_ ?_ ?_) <;> first | rfl | decide) | exact eGlob (St.bas (by assumption)) rfl (fun _ => .int _ _) rfl rfl rfl rfl | with_reducible refine' eMod ?_ ?_ ?_ | with_reducible refine' eDiv ?_ ?_ ?_ ?_ | with_reducible refine' eAdd ?_ ?_ | with_reducible refine' eNeg ?_ | with_reducible refine' eInv ?_ | with_reducible refine' bLt ?_ ?_ ?_ | with_reducible refine' bGt ?_ ?_ ?_ | with_reducible refine' bEq ?_ ?_ ?_ | with_reducible refine' eMin (Rm.hn (by assumption)) ?_ ?_ ?_ ⟨_, _, rfl⟩ | with_reducible exact aNil | with_reducible refine' aCons ?_ ?_ ?_ | ((with_reducible show _ ≠ (0 : Int)); first | decide | (first | lia | omega)) | ((with_reducible show Builtin.divisionGoesByPylong _ _ = false); first | exact PyProof.noPylong_of_log2 (by decide +kernel) | exact PyProof.noPylong_small (by (first | lia | omega))) | ((with_reducible show behindInMarks _ _ = false); rfl) | ((with_reducible show starEach _ _ = _); rfl) | ((with_reducible show List.any _ _ = _); rfl) | ((with_reducible show Ev _ _ (eval (Expr.Name _ _) _) _ _ _); (first | exact evGlob (St.bas (by assumption)) rfl rfl rfl rfl (by decide) | exact evBuilt (St.bas (by assumption)) rfl rfl (by decide) rfl rfl rfl rfl (by decide)))))
  refine sRaise D₂ R'.hn excClass_ZeroDivisionError PySem.F.excCall_ZeroDivisionError PySem.F.self_ZeroDivisionError (by (first | exact evGlob (St.bas (by assumption)) rfl rfl rfl rfl (by decide) | exact evBuilt (St.bas (by assumption)) rfl rfl (by decide) rfl rfl rfl rfl (by decide))) fun e t0 g₃ h₃ D₃ s₃ ht hn => ?_
  exact ⟨e, "ZeroDivisionError", t0, g₃, _, _, rfl, D₃, K.hot rfl rfl fun p hp => .tail _ hp, fun T h₄ D₄ => ⟨e, T, t0, g₃, rfl, D₄.toRet, ht⟩⟩
end
noncomputable def contF (v b : Nat) : List Nat → Option (Nat × List Nat)
  | [] => if b / 64 % 2 = 1 then none else some (v, [])
  | b' :: bs => if b / 64 % 2 = 1 then contF (v * 64 + b' % 64) b' bs else some (v, b' :: bs)
noncomputable def readF : List Nat → Option (Nat × List Nat)
  | [] => none
  | b :: bs => contF (b % 64) b bs
theorem contF_le : ∀ (bs : List Nat) (v b n : Nat) (r : List Nat), contF v b bs = some (n, r) → v ≤ n ∧ r.length ≤ bs.length
  | [], v, b, n, r, h => by
    unfold contF at h
    split at h
    · cases h
    · simp at h
      obtain ⟨rfl, rfl⟩ := h
      simp
  | b' :: bs, v, b, n, r, h => by
    unfold contF at h
    split at h
    · have := contF_le bs _ _ _ _ h
      simp only [List.length_cons]; (first | lia | omega)
    · simp at h
      obtain ⟨rfl, rfl⟩ := h
      simp
section
variable {c : GC}
theorem parse_spec {A : Around} {g : FB} {h : Heap} {v : Value} {I l : Addr} {i j n : Nat} {tp : List Nat} {p : Addr × OC} {rest : Led} (R : Rm A 1 103) (P : Pre c g (p :: (I, .lit l i) :: rest) h) (F₀ : FzL g l (nats tp)) (hv : Den g v (.ref I))
    (hr : readF (tp.drop i) = some (n, tp.drop j)) (hj : j ≤ tp.length) (hn : n < 2 ^ 24) (hl : tp.length ≤ 10000) :
    Cd c A (.call (.ref 51) ⟨[v], []⟩) (fun r h' => ∃ v g', r = .ok (.ret v) ∧ Ret ⟨g, h, (p :: (I, .lit l i) :: rest : Led).map (·.1)⟩ g' (p :: (I, .lit l j) :: rest) h' ∧ Den g' v (.int n)) h := by
  refine enterD (dd := 0) (uu := 100) (binds := [("iterator", v)]) P rfl rfl R (fun s hs => .of_eq rfl) (locs rfl) (by decide) rfl rfl rfl (lookup1 hv) fun L h₁ D F R' => ?_
  refine Wp_gen fun Q kQ => ?_
  have hi : i < tp.length := by
    rcases Nat.lt_or_ge i tp.length with q | q
    · exact q
    · rw [List.drop_eq_nil_of_le q] at hr; cases hr
  have ed : tp.drop i = tp.getD i 0 :: tp.drop (i + 1) := by rw [List.drop_eq_getElem_cons hi, List.getD_eq_getElem?_getD, List.getElem?_eq_getElem hi]; rfl
  rw [ed] at hr
  unfold readF at hr
  refine' sAssignW (Wp_callNext D ?na (eLoc D rfl rfl rfl rfl (by decide)) rfl (.tail .head) F₀ (nats_at hi) fun v₁ g₂ h₂ D₂ s₂ dv₁ => Wp_storeL D₂ dv₁ F rfl fun h₃ D₃ => ?_) rfl
  case na => (first | exact evGlob (St.bas (by assumption)) rfl rfl rfl rfl (by decide) | exact evBuilt (St.bas (by assumption)) rfl rfl (by decide) rfl rfl rfl rfl (by decide))
  generalize tp.getD i 0 = b at *
  refine sAssign (d := .int ((b % 64 : Nat) : Int)) D₃ F (by rw [← and_63]; exact eAnd (eLoc D₃ rfl rfl rfl rfl (by decide)) eInt) rfl rfl fun g₃ h₄ D₄ s₄ => ?_
  have D₄ := D₄.weakL (loc' := [("val", .int ((b % 64 : Nat) : Int)), ("b", .int b), ("iterator", .ref I)]) ⟨rfl, rfl, rfl, trivial⟩
  refine sWhile (fun m h' => ∃ k b v g', m + k = tp.length ∧ contF v b (tp.drop k) = some (n, tp.drop j) ∧ St c ⟨g, h, (p :: (I, OC.lit l i) :: rest : Led).map (·.1)⟩ g' (p :: (I, .lit l k) :: rest) L [("val", .int (v : Int)), ("b", .int (b : Int)), ("iterator", .ref I)] h') (tp.length - (i + 1)) ⟨i + 1, b, b % 64, g₃, by (first | lia | omega), hr, D₄⟩ ?_
  rintro m h₅ ⟨k, b, v, g₅, hm, hc, D₅⟩
  have hle := (contF_le _ _ _ _ _ hc).1
  refine (bInt (i := ((b / 64 % 2 * 64 : Nat) : Int)) (by rw [← and_64]; exact eAnd (eLoc D₅ rfl rfl rfl rfl (by decide)) eInt) rfl).wp D₅ fun bb g₆ h₆ D₆ G₆ eb => ?_
  subst eb
  by_cases hb : b / 64 % 2 = 1
  · rw [hb, if_pos (by decide)]
    have hk : k < tp.length := by
      rcases Nat.lt_or_ge k tp.length with q | q
      · exact q
      · rw [List.drop_eq_nil_of_le q] at hc; unfold contF at hc; rw [if_pos hb] at hc; cases hc
    have ek : tp.drop k = tp.getD k 0 :: tp.drop (k + 1) := by rw [List.drop_eq_getElem_cons hk, List.getD_eq_getElem?_getD, List.getElem?_eq_getElem hk]; rfl
    rw [ek] at hc
    unfold contF at hc
    rw [if_pos hb] at hc
    refine sAug (d := .int (v : Int)) (e := .int 6) (d' := .int ((v * 64 : Nat) : Int)) D₆ F rfl rfl eInt (fun v₁ w₁ g₇ h₇ G₇ p₁ p₂ => ?shl) fun g₇ h₇ D₇ s₇ => ?_
    case shl =>
      rw [show ((v * 64 : Nat) : Int) = (v : Int) * 2 ^ (6 : Int).toNat by rw [show (6 : Int).toNat = 6 from rfl]; (first | lia | omega)]
      refine iShl (by decide) ?_ p₁ p₂
      have := bits_le (x := v) (k := 24) (by (first | lia | omega))
      (first | lia | omega)
    refine' sAssignW (Wp_callNext D₇ ?nb (eLoc D₇ rfl rfl rfl rfl (by decide)) rfl (.tail .head) (F₀.mono D₇.g0) (nats_at hk) fun v₈ g₈ h₈ D₈ s₈ dv₈ => Wp_storeL D₈ dv₈ F rfl fun h₉ D₉ => ?_) rfl
    case nb => (first | exact evGlob (St.bas (by assumption)) rfl rfl rfl rfl (by decide) | exact evBuilt (St.bas (by assumption)) rfl rfl (by decide) rfl rfl rfl rfl (by decide))
    generalize tp.getD k 0 = b' at *
    refine sAug (d := .int ((v * 64 : Nat) : Int)) (e := .int ((b' % 64 : Nat) : Int)) (d' := .int ((v * 64 + b' % 64 : Nat) : Int)) D₉ F rfl rfl (by rw [← and_63]; exact eAnd (eLoc D₉ rfl rfl rfl rfl (by decide)) eInt) (fun v₁ w₁ g₇ h₇ G₇ p₁ p₂ => ?orr) fun g₁₀ h₁₀ D₁₀ s₁₀ => sNil ⟨m - 1, by (first | lia | omega), k + 1, b', v * 64 + b' % 64, g₁₀, by (first | lia | omega), hc, D₁₀.weakL ⟨rfl, rfl, rfl, trivial⟩⟩
    case orr =>
      rw [← or_low v (b' % 64) (Nat.mod_lt _ (by decide))]
      exact iOr p₁ p₂
  · rw [show b / 64 % 2 = 0 by (first | lia | omega), if_neg (by decide)]
    have e : (v, tp.drop k) = (n, tp.drop j) := by
      cases ed : tp.drop k with
      | nil => rw [ed] at hc; unfold contF at hc; rw [if_neg hb] at hc; exact Option.some.inj hc
      | cons x xs => rw [ed] at hc; unfold contF at hc; rw [if_neg hb] at hc; exact Option.some.inj hc
    obtain ⟨e1, e2⟩ := Prod.mk.inj e
    have e3 : k = j := by
      have := congrArg List.length e2
      simp only [List.length_drop] at this
      (first | lia | omega)
    subst e1 e3
    exact sReturnD D₆ (eLoc D₆ rfl rfl rfl rfl (by decide)) fun v g₅ h₆ D₅ sb' p' => kQ _ _ ⟨v, g₅, rfl, D₅.toRet, p'⟩
theorem parse_stop {A : Around} {g : FB} {h : Heap} {v : Value} {I l : Addr} {i : Nat} {tp : List Nat} {p : Addr × OC} {rest : Led} (R : Rm A 1 103) (P : Pre c g (p :: (I, .lit l i) :: rest) h) (K : Stk A (p :: rest)) (F₀ : FzL g l (nats tp)) (hv : Den g v (.ref I))
    (hi : tp.length ≤ i) :
    Cd c A (.call (.ref 51) ⟨[v], []⟩) (fun r h' => ∃ e T t0 g', r = .error (.ref e) ∧ Ret ⟨g, h, (p :: (I, .lit l i) :: rest : Led).map (·.1)⟩ g' (p :: (T, .tb .none) :: (e, .exc "StopIteration" t0 (some T)) :: (I, .pr fun _ => True) :: rest) h' ∧ g' t0 = some (tupOf [] 0)) h := by
  refine enterDX (dd := 0) (uu := 100) (binds := [("iterator", v)]) P rfl rfl R (fun s hs => .of_eq rfl) (locs rfl) (by decide) rfl rfl rfl (lookup1 hv) fun L h₁ D F R' => ?_
  refine' sAssignW (Wp_callNextE D R'.hn ?nc (eLoc D rfl rfl rfl rfl (by decide)) rfl (.tail .head) F₀ (by rw [List.length_map]; exact hi) fun e t0 g₄ h₅ D₅ s₅ ht hn => ?_) rfl
  case nc => (first | exact evGlob (St.bas (by assumption)) rfl rfl rfl rfl (by decide) | exact evBuilt (St.bas (by assumption)) rfl rfl (by decide) rfl rfl rfl rfl (by decide))
  refine ⟨e, "StopIteration", t0, g₄, _, _, rfl, D₅, ?_, fun T h₆ D₆ => ⟨e, T, t0, g₄, rfl, D₆.toRet.perm ?_, ht⟩⟩
  · obtain ⟨outer, hA, hk⟩ := K
    refine Stk.hot (mu := p :: (I, .pr fun _ => True) :: rest) ⟨outer, hA, fun e he => ?_⟩ rfl rfl fun q hq => .tail _ hq
    obtain ⟨k1, a, m, fa, ha⟩ := hk e he
    refine ⟨k1, a, m, fa, ?_⟩
    rcases List.mem_cons.mp ha with rfl | ha
    · exact .head _
    · exact .tail _ (.tail _ ha)
  · exact (List.Perm.swap _ _ _).trans ((List.Perm.cons _ (List.Perm.swap _ _ _))).symm
end
inductive Rds : List Nat → List Nat → Prop
  | nil : Rds [] []
  | cons {tp tp' : List Nat} {n : Nat} {ns : List Nat} : readF tp = some (n, tp') → n < 2 ^ 24 → Rds tp' ns → Rds tp (n :: ns)
theorem Rds.nil_inv {tp : List Nat} (h : Rds tp []) : tp = [] := by cases h; rfl
theorem Rds.cons_inv {tp ns : List Nat} {n : Nat} (h : Rds tp (n :: ns)) : ∃ tp', readF tp = some (n, tp') ∧ n < 2 ^ 24 ∧ Rds tp' ns := by cases h; exact ⟨_, ‹_›, ‹_›, ‹_›⟩
theorem contF_drop : ∀ (bs : List Nat) (v b n : Nat) (r : List Nat), contF v b bs = some (n, r) → ∃ k, r = bs.drop k
  | [], v, b, n, r, h => by
    unfold contF at h
    split at h
    · cases h
    · simp at h
      obtain ⟨rfl, rfl⟩ := h
      exact ⟨0, rfl⟩
  | b' :: bs, v, b, n, r, h => by
    unfold contF at h
    split at h
    · obtain ⟨k, rfl⟩ := contF_drop bs _ _ _ _ h
      exact ⟨k + 1, rfl⟩
    · simp at h
      obtain ⟨rfl, rfl⟩ := h
      exact ⟨0, rfl⟩
theorem readF_drop {tp : List Nat} {i n : Nat} {r : List Nat} (h : readF (tp.drop i) = some (n, r)) : ∃ j, i < j ∧ j ≤ tp.length ∧ r = tp.drop j := by
  have hi : i < tp.length := by
    rcases Nat.lt_or_ge i tp.length with q | q
    · exact q
    · rw [List.drop_eq_nil_of_le q] at h; cases h
  rw [List.drop_eq_getElem_cons hi] at h
  unfold readF at h
  obtain ⟨k, rfl⟩ := contF_drop _ _ _ _ _ h
  rw [List.drop_drop]
  by_cases q : i + 1 + k ≤ tp.length
  · exact ⟨i + 1 + k, by (first | lia | omega), q, rfl⟩
  · exact ⟨tp.length, hi, Nat.le_refl _, by rw [List.drop_eq_nil_of_le (by (first | lia | omega)), List.drop_eq_nil_of_le (Nat.le_refl _)]⟩
theorem Sel.whole : ∀ l : Led, Sel l l []
  | [] => .all
  | _ :: l => .take (Sel.whole l)
theorem Stk.push {A : Around} {env : Env} {mu : Led} {L : Addr} {m : Str → Option Value} (s : Stk A mu) (hk : env.scope.kind = .function) (hf : env.frame = some L) : Stk (A.deeper env) ((L, OC.fm m) :: mu) := by
  obtain ⟨outer, hA, hk'⟩ := s
  refine ⟨_, Around.frames_deeper hA, fun e he => ?_⟩
  rcases List.mem_cons.mp he with rfl | he
  · exact ⟨by rw [hk]; decide, L, m, hf, .head _⟩
  · obtain ⟨k, a, m', fa, ha⟩ := hk' e he
    exact ⟨k, a, m', fa, .tail _ ha⟩
theorem isExc_StopIteration : isSubtype (.type "StopIteration") (.type "BaseException") = pure true := by rw [isSubtype_type]; kernel_rfl
theorem notTuple_StopIteration : isSubtype (.type ((Manifest.find? "StopIteration").elim "type" fun x => x.metatype)) (.type "tuple") = pure false := by
  rw [show ((Manifest.find? "StopIteration").elim "type" fun x => x.metatype) = "type" by decide +kernel, isSubtype_type]; kernel_rfl
section
variable {c : GC}
theorem read_spec {A : Around} {g : FB} {h : Heap} {v : Value} {tp ns : List Nat} {mu : Led} (R : Rm A 3 110) (P : Pre c g mu h) (K : Stk A mu) (hv : Den g v (.lst (nats tp))) (hr : Rds tp ns) (hl : tp.length ≤ 10000) :
    Cd c A (.call (.ref 140) ⟨[v], []⟩) (fun r h' => ∃ v g', r = .ok (.ret v) ∧ Ret ⟨g, h, mu.map (·.1)⟩ g' mu h' ∧ Den g' v (.lst (nats ns))) h := by
  refine enterD (dd := 2) (uu := 107) (binds := [("tape", v)]) P rfl rfl R (fun s hs => .of_eq rfl) (locs rfl) (by decide) rfl rfl rfl (lookup1 hv) fun L h₁ D F R' => ?_
  refine Wp_gen fun Q kQ => ?_
  obtain ⟨l, rfl, Fz⟩ := hv.fzL
  refine sAssignN (ds := []) D F (eList aNil (by decide)) rfl rfl fun TA g₂ h₂ D₂ hTA s₂ => ?_
  refine sAssignW (Wp_Call (by (first | exact evGlob (St.bas (by assumption)) rfl rfl rfl rfl (by decide) | exact evBuilt (St.bas (by assumption)) rfl rfl (by decide) rfl rfl rfl rfl (by decide))) D₂.gr fun g₃ h₃ G₃ => Wp_callB rfl (.inr ⟨_, _, rfl⟩) (Wa_cons ((eLoc (d := .lst (nats tp)) (D₂.grow G₃) rfl rfl rfl rfl (by decide)).wp (D₂.grow G₃) fun w g₄ h₄ D₄ G₄ dw => Wa_nil ?_) rfl)) rfl
  obtain ⟨l', rfl, Fz'⟩ := dw.fzL
  refine Wp_iterL D₄ Fz' fun I h₅ D₅ hI => Wp_storeL D₅ (.ref I) F rfl fun h₆ D₆ => ?_
  have D₆ : St c ⟨g, h, mu.map (·.1)⟩ g₄ ((TA, .lst (nats (ns.take 0))) :: (I, .lit l' 0) :: mu) L [("octets", .ref I), ("told", .ref TA), ("tape", .lst (nats tp))] h₆ := (D₆.weakL (loc' := [("octets", .ref I), ("told", .ref TA), ("tape", .lst (nats tp))]) ⟨rfl, rfl, rfl, trivial⟩).perm (.swap _ _ _)
  refine sTry ?_
  refine sWhileX (fun m h' => ∃ i k g', m + i = tp.length ∧ k ≤ i ∧ Rds (tp.drop i) (ns.drop k) ∧ k ≤ ns.length ∧ FzL g' l' (nats tp) ∧ St c ⟨g, h, mu.map (·.1)⟩ g' ((TA, .lst (nats (ns.take k))) :: (I, .lit l' i) :: mu) L [("octets", .ref I), ("told", .ref TA), ("tape", .lst (nats tp))] h') tp.length ⟨0, 0, g₄, by (first | lia | omega), Nat.le_refl _, hr, Nat.zero_le _, Fz', D₆⟩ ?_
  rintro m h₇ ⟨i, k, g₇, hm, hki, hrd, hkn, Fz₇, D₇⟩
  refine' (bLe (i := (((nats (ns.take k)).length : Nat) : Int)) (j := (((nats tp).length : Nat) : Int)) (eLen ?na (lR (eLoc D₇ rfl rfl rfl rfl (by decide)) (D₇.lstAt (.head _))) rfl ?sz1) (eLen ?nb (lD (eLoc D₇ rfl rfl rfl rfl (by decide))) rfl ?sz2) rfl).wp D₇ fun bb g₈ h₈ D₈ G₈ eb => ?_
  case na => (first | exact evGlob (St.bas (by assumption)) rfl rfl rfl rfl (by decide) | exact evBuilt (St.bas (by assumption)) rfl rfl (by decide) rfl rfl rfl rfl (by decide))
  case nb => (first | exact evGlob (St.bas (by assumption)) rfl rfl rfl rfl (by decide) | exact evBuilt (St.bas (by assumption)) rfl rfl (by decide) rfl rfl rfl rfl (by decide))
  case sz1 => simp; (first | lia | omega)
  case sz2 => simp; (first | lia | omega)
  subst eb
  rw [if_pos (by simp; (first | lia | omega))]
  have Fz₈ := Fz₇.mono G₈.sub
  refine sAppendW D₈ (eLoc D₈ rfl rfl rfl rfl (by decide)) (.head _) (fun g₉ h₉ D₉ s₉ Z kZ => ?_) rfl rfl rfl rfl rfl
  refine' Wp_CallX (f := 51) (ks := L :: I :: mu.map (·.1)) (rest' := [(TA, .lst (nats (ns.take k)))]) (mu := (I, .lit l' i) :: mu)
    (Post := fun g' v own' => ∃ n j, i < j ∧ j ≤ tp.length ∧ own' = (I, .lit l' j) :: mu ∧ Den g' v (.int (n : Nat)) ∧ k < ns.length ∧ ns.drop k = n :: ns.drop (k + 1) ∧ Rds (tp.drop j) (ns.drop (k + 1)))
    (PostE := fun g' e own' => ∃ a T t0, e = .ref a ∧ own' = (T, .tb .none) :: (a, .exc "StopIteration" t0 (some T)) :: (I, .pr fun _ => True) :: mu ∧ k = ns.length)
    D₉ ?nc (c.X _ _ rfl) rfl (aCons (eLoc D₉ rfl rfl rfl rfl (by decide)) aNil rfl) ⟨_, _, rfl⟩ (.skip (Sel.whole _)) (by simp) ?spec ?ok ?err
  case nc => (first | exact evGlob (St.bas (by assumption)) rfl rfl rfl rfl (by decide) | exact evBuilt (St.bas (by assumption)) rfl rfl (by decide) rfl rfl rfl rfl (by decide))
  case spec =>
    intro m' vs g₁ h₁ P₁ dv s₁
    obtain ⟨w, rfl, dw⟩ := dv.one_inv
    cases hns : ns.drop k with
    | nil =>
      rw [hns] at hrd
      have ht : tp.length ≤ i := List.drop_eq_nil_iff.mp hrd.nil_inv
      have hk : k = ns.length := by have := List.drop_eq_nil_iff.mp hns; (first | lia | omega)
      exact (parse_stop (R'.le (by (first | lia | omega)) (by (first | lia | omega))) P₁ (K.push rfl rfl) ((Fz₈.mono s₉).mono s₁) dw ht).mono fun r' h' ⟨e, T, t0, g', er, RR, _⟩ => .inr ⟨.ref e, g', _, er, RR, e, T, t0, rfl, rfl, hk⟩
    | cons n ns' =>
      have hk : k < ns.length := by
        rcases Nat.lt_or_ge k ns.length with q | q
        · exact q
        · rw [List.drop_eq_nil_of_le q] at hns; cases hns
      have hns' : ns' = ns.drop (k + 1) := by rw [← List.tail_drop, hns]; rfl
      subst hns'
      rw [hns] at hrd
      obtain ⟨tp', hrf, hn, hrest⟩ : ∃ tp', readF (tp.drop i) = some (n, tp') ∧ n < 2 ^ 24 ∧ Rds tp' (ns.drop (k + 1)) := hrd.cons_inv
      obtain ⟨j, hij, hj, rfl⟩ := readF_drop hrf
      exact (parse_spec (R'.le (by (first | lia | omega)) (by (first | lia | omega))) P₁ ((Fz₈.mono s₉).mono s₁) dw hrf hj hn hl).mono fun r' h' ⟨v, g', er, RR, dv⟩ => .inl ⟨v, g', _, er, RR, n, j, hij, hj, rfl, dv, hk, rfl, hrest⟩
  case ok =>
    rintro v g₁₀ own' h₁₀ D₁₀ s₁₀ ⟨n, j, hij, hj, rfl, dv, hk, hns, hrest⟩
    have D₁₀ : St c ⟨g, h, mu.map (·.1)⟩ g₁₀ ((TA, .lst (nats (ns.take k))) :: (I, .lit l' j) :: mu) L [("octets", .ref I), ("told", .ref TA), ("tape", .lst (nats tp))] h₁₀ := D₁₀.perm (List.perm_append_comm (l₁ := [(TA, OC.lst (nats (ns.take k)))]) (l₂ := (I, OC.lit l' j) :: mu))
    refine kZ v g₁₀ _ _ (nats (ns.take k)) (.int n) _ D₁₀ dv .head (by simp only [List.length_map, List.length_take, sizeLine_eq]; (first | lia | omega)) fun g₁₁ h₁₁ D₁₁ s₁₁ => sNil ⟨m - (j - i), by (first | lia | omega), j, k + 1, g₁₁, by (first | lia | omega), by (first | lia | omega), hrest, hk, (((Fz₈.mono s₉).mono s₁₀).mono s₁₁), ?_⟩
    have e : nats (ns.take (k + 1)) = nats (ns.take k) ++ [.int n] := by
      rw [List.take_add_one, show ns[k]? = some n by rw [← List.head?_drop, hns]; rfl]
      simp
    rw [e]
    exact D₁₁
  case err =>
    rintro ev g₁₀ own' h₁₀ D₁₀ s₁₀ ⟨e, T, t0, rfl, rfl, hk⟩
    have D₁₀ : St c ⟨g, h, mu.map (·.1)⟩ g₁₀ ((T, .tb .none) :: (e, .exc "StopIteration" t0 (some T)) :: (I, .pr fun _ => True) :: (mu ++ [(TA, .lst (nats (ns.take k)))])) L [("octets", .ref I), ("told", .ref TA), ("tape", .lst (nats tp))] h₁₀ := D₁₀
    refine Wp_loopOut (X := "StopIteration") (t0 := t0) (T := T) (x := .none) (ow := fun T' => (T, .tb .none) :: (e, .exc "StopIteration" t0 (some T')) :: (I, .pr fun _ => True) :: (mu ++ [(TA, .lst (nats (ns.take k)))])) D₁₀ (K.hot rfl rfl fun p hp => .tail _ (.tail _ (.tail _ (List.mem_append_left _ hp)))) .head (.tail _ (.head _)) (by intro q; cases q) (fun T' => .tail .head) fun T' h₁₁ D₁₁ => ?_
    refine Wp_note2 D₁₁ rfl (.tail _ (.tail _ (.head _))) (.head _) ?_
    refine Wp_flight D₁₁ (.tail _ (.tail _ (.head _))) .head fun h₁₂ D₁₂ => ?_
    refine Wp_handle (T' := "StopIteration") D₁₂ (.tail _ (.tail _ (.head _))) (.head _) ?h1 ?h2 ?h3 (by (first | exact evGlob (St.bas (by assumption)) rfl rfl rfl rfl (by decide) | exact evBuilt (St.bas (by assumption)) rfl rfl (by decide) rfl rfl rfl rfl (by decide))) fun g₁₃ h₁₃ D₁₃ s₁₃ => ?_
    case h1 => exact isExc_StopIteration
    case h2 => exact notTuple_StopIteration
    case h3 => exact isSubtype_stop
    have D₁₄ := D₁₃.perm (own' := (TA, .lst (nats (ns.take k))) :: (mu ++ [(T', .tb .none), (T, .tb .none), (e, .exc "StopIteration" t0 (some T')), (I, .pr fun _ => True)])) (List.Perm.trans (l₂ := (TA, .lst (nats (ns.take k))) :: ([(T', .tb .none), (T, .tb .none), (e, .exc "StopIteration" t0 (some T')), (I, .pr fun _ => True)] ++ mu)) (.cons _ List.perm_append_comm) (List.perm_append_singleton (TA, OC.lst (nats (ns.take k))) ([(T', .tb .none), (T, .tb .none), (e, .exc "StopIteration" t0 (some T')), (I, .pr fun _ => True)] ++ mu)).symm)
    obtain ⟨g₁₅, D₁₅, s₁₅⟩ := D₁₄.freezeL (x := "told") (.take .all) hTA rfl
    refine sReturnD D₁₅ (eLoc (d := .lst (nats (ns.take k))) D₁₅ rfl rfl rfl rfl (by decide)) fun v g₁₆ h₁₆ D₁₆ s₁₆ dv => ?_
    rw [hk, List.take_length] at dv
    exact kQ _ _ ⟨v, g₁₆, rfl, (D₁₆.sub (fun p hp => List.mem_append_left _ hp) (List.nodup_append.mp (by rw [← List.map_append]; exact D₁₆.nd)).1).toRet, dv⟩
end
noncomputable abbrev nmB (v w : Value) (D : Addr) : List (Str × Value) := [("name_index", v), ("get_name", w), ("extrainfo", .ref D)]
section
variable {c : GC}
theorem wp_eqk {α : Type} {M : Model} {A : Around} {t t' : Sem α} {Q : α → Shared → Prop} {E : Value → Shared → Prop} {s : Shared} (e : t = t') (h : wpAny M A t' Q E s) : wpAny M A t Q E s := e ▸ h
theorem name_spec {A : Around} {g : FB} {h : Heap} {v w u : Value} {part j : Int} {f : Addr} {fo : Obj} {fd : FuncData} {mu mu' : Led} (R : Rm A 3 120) (P : Pre c g mu h) (hv : Den g v (.int part)) (hw : Den g w (.ref f)) (ho : g f = some fo) (hd' : fo.data = .func fd)
    (spec : ∀ A' vs g₁ h₁, Rm A' 2 117 → Pre c g₁ mu h₁ → Dens g₁ vs [.int part] → Sub g g₁ → Cd c A' (.call (.ref f) ⟨vs, [("less", u)]⟩) (fun r h' => ∃ v g' own', r = .ok (.ret v) ∧ Ret ⟨g₁, h₁, mu.map (·.1)⟩ g' own' h' ∧ own' = mu' ∧ Den g' v (.int j)) h₁) :
    Cd c A (.call (.ref 44) ⟨[v, w], [("less", u)]⟩) (fun r h' => ∃ v g', r = .ok (.ret v) ∧ Ret ⟨g, h, mu.map (·.1)⟩ g' mu' h' ∧ Den g' v (.tup [.int j, .int j])) h := by
  refine enterB (dd := 2) (uu := 117) (BP := fun binds g₁ => ∃ D t, binds = nmB v w D ∧ g₁ D = some (dct1 c.w.params "less" t u 1) ∧ (D == sysModules) = false ∧ Sub g g₁)
    (bd := fun binds => match binds with
      | [_, _, (_, .ref D)] => [("extrainfo", .ref D), ("get_name", .ref f), ("name_index", .int part)]
      | _ => []) P rfl rfl R ?bind ?loc (by decide) rfl rfl rfl ?hb ?body
  case bind =>
    intro s E Q hs k
    subst hs
    refine wp_eqk (t' := (alloc { cls := .type "dict", data := .dict #[] } >>= fun d => (forIn [(("less" : Str), u)] PUnit.unit fun x _ => (nsSet d x.1 x.2 >>= fun _ => pure (ForInStep.yield PUnit.unit))) >>= fun _ => pure (nmB v w d))) (by kernel_rfl) ?_
    have hn := Heap.get?_push_self_none s.heap
    refine wpAny_bind (wpAny_alloc ?_)
    rw [List.forIn_cons]
    refine wpAny_bind (wpAny_bind (wpAny_bind (wp_fill1 (d := s.heap.objs.size) (Heap.get?_push_size _ rfl) fun h' hsb ho' => wpAny_pure ?_)))
    dsimp only
    rw [List.forIn_nil]
    refine wpAny_pure (wpAny_pure ?_)
    have G₁ : Gr g s.heap g h' := .heap P.gh fun b o e => hsb.extBut b o (Nat.ne_of_lt (Heap.lt_size e)) (Heap.get?_push_of_some _ e)
    obtain ⟨G₂, sb, eD⟩ := G₁.fz hn (FB.none_of P.gh hn) ho'
    exact k _ _ h' _ G₂ ⟨_, _, rfl, eD, beq_eq_false_iff_ne.mpr (Nat.ne_of_gt (modules_low (c.T.nolimit.keeps P.bas.keep))), sb⟩
  case loc =>
    rintro binds g₁ ⟨D, t, rfl, _⟩
    exact locs rfl
  case hb =>
    rintro binds g₁ ⟨D, t, rfl, _, _, sb⟩
    exact lookup3 (hv.mono sb) (hw.mono sb) (.ref D)
  case body =>
    rintro binds g₁ L h₁ ⟨D, t, rfl, eD, hm, sb⟩ D₁ F R'
    refine sIf D₁ (bNotN (eLoc D₁ rfl rfl rfl rfl (by decide))) (fun _ g₂ h₂ D₂ s₂ => ?_) fun q => by simp [Dt.isNone] at q
    refine sAssignW (Wp_CallKw (f := .ref f) ((eLoc (d := .ref f) D₂ rfl rfl rfl rfl (by decide)).imp fun v _ _ _ q => q.ref_inv) D₂.gr fun g₃ h₃ G₃ => ?_) rfl
    have D₃ := D₂.grow G₃
    refine Wp_callStar (r := ⟨g, h, mu.map (·.1)⟩) (own := mu) (L := L) (loc := [("extrainfo", .ref D), ("get_name", .ref f), ("name_index", .int part)]) (D := D) (k := "less") (t := t) (u := u) (n := 1) hd' ⟨_, _, rfl⟩ hm (fun Z kZ => Wa_cons ((eLoc (d := .int part) D₃ rfl rfl rfl rfl (by decide)).wp D₃ fun v₄ g₄ h₄ D₄ G₄ dv₄ => Wa_nil (kZ _ g₄ _ D₄ ((ev_back (eLoc (d := .ref D) D₄ rfl rfl rfl rfl (by decide))).imp fun v _ _ _ q => q.ref_inv) (G₄.sub _ _ (G₃.sub _ _ (s₂ _ _ eD))) fun g₅ h₅ D₅ s₅ => ⟨D₅.gh _ _ (D₅.g0 _ _ ho), ?_⟩)) rfl)
    refine (spec _ [v₄] g₅ h₅ (R'.le (by (first | lia | omega)) (by (first | lia | omega))) D₅.pre (.one (dv₄.mono s₅)) D₅.g0).mono fun r' h' ⟨v₆, g₆, own₆, er, RR, eo, dv₆⟩ => ?_
    subst er eo
    have D₆ := D₅.after (Sel.whole _) (fun k hk => hk) RR
    rw [List.append_nil] at D₆
    refine Wp_storeL D₆ dv₆ F rfl fun h₇ D₇ => ?_
    exact sReturnD D₇ (eTup (aCons (eLoc D₇ rfl rfl rfl rfl (by decide)) (aCons (eLoc D₇ rfl rfl rfl rfl (by decide)) aNil rfl) rfl) (by simp only [List.length_cons, List.length_nil]; decide)) fun v g₅ h₆ D₅ sb' p' => ⟨v, g₅, rfl, D₅.toRet, p'⟩
end
noncomputable abbrev tabLm : OC := OC.tab ⟨198, 40, 198, 96⟩ "_law_run.<locals>.<lambda>"
noncomputable abbrev runMu : Led := [(67, tabI2), (74, tabD2), (142, tabLm)]
structure Cf where
  log : List Dt
  pile : List Int
  place : Int
noncomputable def metF (rows : List R4) (pl : Int) : R4 := (rows.filter fun r => decide (r.p ≤ pl) && decide (pl < r.p + r.n)).headD ⟨0, 0, -1, 0⟩
noncomputable abbrev told3 (q s : Int) : List Dt := [.tup [.int q, .int s], .str (iText q), .str (iText s)]
inductive Step (ws : List (List Nat)) (deeds : List Nat) (rows : List R4) : Cf → Cf → Prop
  | num {log : List Dt} {pile : List Int} {pl part : Nat} : deeds[pl]? = some (5 * part) → part < 2001 → Step ws deeds rows ⟨log, pile, pl⟩ ⟨log ++ .int part :: told3 (part - 1000) (part - 1000), pile ++ [(part : Int) - 1000], (pl : Int) + 1⟩
  | dist {log : List Dt} {pile : List Int} {pl part : Nat} : deeds[pl]? = some (5 * part + 1) → part < 16 → Step ws deeds rows ⟨log, pile, pl⟩ ⟨log ++ [.str (iText (wpart ws part))], pile ++ [wpart ws part], (pl : Int) + 1⟩
  | div {log : List Dt} {pile : List Int} {pl k : Nat} {x y : Int} : deeds[pl]? = some k → k = 2 ∨ k = 3 → y ≠ 0 → x.natAbs ≤ 1000 → y.natAbs ≤ 1000 →
      Step ws deeds rows ⟨log, pile ++ [x, y], pl⟩ ⟨log ++ told3 (x.fdiv y) (x.fmod y), pile ++ [if k = 2 then x.fdiv y else x.fmod y], (pl : Int) + 1⟩
  | stop {log : List Dt} {pile : List Int} {pl k : Nat} {x : Int} {m : Nat} : deeds[pl]? = some k → k = 2 ∨ k = 3 → (metF rows pl).m = (m : Int) →
      Step ws deeds rows ⟨log, pile ++ [x, 0], pl⟩ ⟨log ++ [.str "none"], (pile ++ [x, 0]).take (m / 2), (metF rows pl).s⟩
  | jump {log : List Dt} {pile : List Int} {pl part : Nat} : deeds[pl]? = some (5 * part + 4) → Step ws deeds rows ⟨log, pile, pl⟩ ⟨log, pile, part⟩
inductive Runs (ws : List (List Nat)) (deeds : List Nat) (rows : List R4) : Nat → Cf → Cf → Prop
  | done {cf : Cf} : cf.place < 0 ∨ (deeds.length : Int) ≤ cf.place → Runs ws deeds rows 0 cf cf
  | step {n : Nat} {a b e : Cf} : a.log.length ≤ 4000 → a.pile.length ≤ 4000 → Step ws deeds rows a b → Runs ws deeds rows n b e → Runs ws deeds rows (n + 1) a e
theorem Step.at {ws : List (List Nat)} {deeds : List Nat} {rows : List R4} {a b : Cf} (s : Step ws deeds rows a b) : ∃ pl d : Nat, a.place = (pl : Int) ∧ deeds[pl]? = some d := by
  cases s <;> exact ⟨_, _, rfl, ‹_›⟩
structure Wd2 (ws : List (List Nat)) : Prop extends Wds ws where
  lev : ∀ i j, LevIs (ws.getD i []) (ws.getD j []) (apart (S (ws.getD i [])) (S (ws.getD j [])))
theorem isExc_ZDE : isSubtype (.type "ZeroDivisionError") (.type "BaseException") = pure true := by rw [isSubtype_type]; kernel_rfl
theorem range_filter {α : Type} (d : α) (P : α → Bool) : ∀ (l : List α), ((List.range l.length).filter fun i => P (l.getD i d)).map (fun i => l.getD i d) = l.filter P
  | [] => rfl
  | a :: l => by
    have ih := range_filter d P l
    rw [List.length_cons, List.range_succ_eq_map, List.filter_cons, List.filter_map, List.filter_cons]
    have e1 : (fun i => P ((a :: l).getD i d)) ∘ Nat.succ = fun i => P (l.getD i d) := by funext i; simp
    rw [e1]
    have e2 : (a :: l).getD 0 d = a := rfl
    rw [e2]
    cases P a
    · rw [if_neg (by simp), if_neg (by simp), List.map_map, ← ih]
      rfl
    · rw [if_pos rfl, if_pos rfl, List.map_cons, List.map_map, ← ih]
      rfl
theorem met_at (rows : List R4) (pl : Int) : (((List.range rows.length).filter fun i => decide ((rows.getD i ⟨0, 0, -1, 0⟩).p ≤ pl) && decide (pl < (rows.getD i ⟨0, 0, -1, 0⟩).p + (rows.getD i ⟨0, 0, -1, 0⟩).n)).map (fun i => (rows.getD i ⟨0, 0, -1, 0⟩).dt) ++ [R4.dt ⟨0, 0, -1, 0⟩])[0]? = some (metF rows pl).dt := by
  have e := range_filter (⟨0, 0, -1, 0⟩ : R4) (fun r => decide (r.p ≤ pl) && decide (pl < r.p + r.n)) rows
  rw [show (fun i => (rows.getD i ⟨0, 0, -1, 0⟩).dt) = R4.dt ∘ (fun i => rows.getD i ⟨0, 0, -1, 0⟩) from rfl, ← List.map_map, e]
  unfold metF
  cases rows.filter fun r => decide (r.p ≤ pl) && decide (pl < r.p + r.n) <;> rfl
section
variable {c : GC}
theorem run_spec {ws : List (List Nat)} (W : Wd2 ws) {A : Around} {g : FB} {h : Heap} {v w u : Value} {deeds : List Nat} {rows : List R4} {mu : Led} {N : Nat} {ce : Cf} (R : Rm A 22 300) (P : Pre c g (runMu ++ mu) h) (K : Stk A mu)
    (hv : Den g v (.lst (nats deeds))) (hw : Den g w (.lst (rows.map R4.dt))) (hu : Den g u (.lst (wdts ws))) (hrun : Runs ws deeds rows N ⟨[], [], 0⟩ ce) (hdl : deeds.length ≤ 1000) (hrl : rows.length ≤ 1000) (hcl : ce.log.length ≤ 5000 ∧ ce.pile.length ≤ 5000) :
    Cd c A (.call (.ref 145) ⟨[v, w, u], []⟩) (fun r h' => ∃ v g', r = .ok (.ret v) ∧ Ret ⟨g, h, (runMu ++ mu).map (·.1)⟩ g' (runMu ++ mu) h' ∧ Den g' v (.lst [.lst ce.log, if 0 < ce.place then .lst (ce.pile.map .int) else .none])) h := by
  refine enterC (binds := [("deeds", v), ("rows", w), ("words", u)]) (bd := [("words", .lst (wdts ws)), ("rows", .lst (rows.map R4.dt)), ("deeds", .lst (nats deeds))]) (dd := 21) (uu := 297) (fun L => [(L + 1 + 1, .cell none), (L + 1, .cell none)]) P rfl rfl R (fun s hs => .of_eq rfl) ?hkind ?hnd rfl rfl rfl ?hled ?hb fun L h₁ D F R' => ?_
  case hkind =>
    intro k y hy
    simp only [List.mem_cons, List.mem_nil_iff, or_false] at hy
    rcases hy with rfl | rfl | rfl <;> exact .inl rfl
  case hnd => decide
  case hled => exact fun L => .none rfl (.none rfl .nil)
  case hb =>
    intro L y d e
    simp only [List.lookup_cons, List.lookup_nil] at e
    cases z : y == ("words" : Str) with
    | true => rw [z] at e; simp at e; subst e; rw [eq_of_beq z]; exact ⟨u, rfl, hu⟩
    | false =>
      rw [z] at e; simp at e
      cases z : y == ("rows" : Str) with
      | true => rw [z] at e; simp at e; subst e; rw [eq_of_beq z]; exact ⟨w, rfl, hw⟩
      | false =>
        rw [z] at e; simp at e
        cases z : y == ("deeds" : Str) with
        | true => rw [z] at e; simp at e; subst e; rw [eq_of_beq z]; exact ⟨v, rfl, hv⟩
        | false => rw [z] at e; simp at e
  have D : St c ⟨g, h, (runMu ++ mu).map (·.1)⟩ g ([(L + 1 + 1, .cell none), (L + 1, .cell none)] ++ (runMu ++ mu)) L _ h₁ := D
  obtain ⟨r, hRec⟩ : ∃ r : Rec, (⟨g, h, (runMu ++ mu).map (·.1)⟩ : Rec) = r := ⟨_, rfl⟩
  rw [hRec] at D
  refine sAsgTW (Wp_TupF D (Wa_cons ((eList aNil (by decide)).wp D fun LG g₂ h₂ D₂ hLG G₂ => Wa_cons ((eList aNil (by decide)).wp D₂ fun PA g₃ h₃ D₃ hPA G₃ => Wa_cons ((eInt (i := 0)).wp D₃ fun v₀ g₄ h₄ D₄ G₄ dv₀ => Wa_nil ⟨g₄, _, [.ref LG, .ref PA, .int 0], D₄, .cons (.ref _) (.cons (.ref _) (.cons dv₀ .nil)), by simp only [List.length_cons, List.length_nil]; decide, fun v₁ g₅ h₅ D₅ s₅ dv₁ => ?_⟩) rfl) rfl) rfl)) rfl rfl
  refine Wp_eq (arm_assign_Tuple ..) (Wp_bind ⟨fun s hs hr => wpAny_standAt ⟨?_, hr⟩⟩)
  subst hs
  show Wp c _ (holding [v₁] (unpackItems v₁ 3 none) >>= fun items => assignInOrder [assign (.Name "log" _) _, assign (.Name "pile" _) _, assign (.Name "place" _) _] items) _ _ s.heap
  refine Wp_bind (Wp_hold (Wp_unpackT D₅ R'.hn dv₁ rfl fun vs h₆ D₆ kv => ?_))
  obtain ⟨w₁, w₂, w₃, rfl, dw₁, dw₂, dw₃⟩ := kv.three_inv
  have hLG' : r.h.get? LG = none := D.none_of hLG
  have hPA' : r.h.get? PA = none := D.none_of ((Al.of G₂.kp).none hPA)
  have D₆ : St c r g₅ ([(PA, .lst []), (LG, .lst []), (L + 1 + 1, .cell none), (L + 1, .cell none)] ++ (runMu ++ mu)) L _ h₆ := D₆
  let base : Loc := [("words", .lst (wdts ws)), ("rows", .lst (rows.map R4.dt)), ("deeds", .lst (nats deeds))]
  refine Wp_inOrder (Wp_asgName (Wp_storeC D₆ dw₁ F rfl rfl (.tail (.tail .head)) fun h₇ D₇ => Wp_inOrder (Wp_asgL D₇ dw₂ F rfl <| let l_0 : Loc := _; fun h₈ (D₈ : St _ _ _ _ _ l_0 _) => Wp_inOrder (Wp_asgName (Wp_storeC D₈ dw₃ F rfl rfl (.tail (.tail (.tail .head))) fun h₉ D₉ => Wp_inOrder0 ?_)))))
  have D₉ : St c r g₅ ([(PA, .lst (([] : List Int).map .int)), (LG, .lst []), (L + 1 + 1, .cell (some (.ref LG))), (L + 1, .cell (some (.int 0)))] ++ (runMu ++ mu)) L (("pile", .ref PA) :: base) h₉ := D₉
  refine sWhile (fun n h' => ∃ cf g' PA, Runs ws deeds rows n cf ce ∧ r.h.get? PA = none ∧ St c r g' ([(PA, .lst (cf.pile.map .int)), (LG, .lst cf.log), (L + 1 + 1, .cell (some (.ref LG))), (L + 1, .cell (some (.int cf.place)))] ++ (runMu ++ mu)) L (("pile", .ref PA) :: base) h') N ⟨⟨[], [], 0⟩, g₅, PA, hrun, hPA', D₉⟩ ?_
  rintro n h₁₀ ⟨cf, g₁₀, PA, hrun, hPA, D₁₀⟩
  refine' (bLeLt (j := cf.place) (k := (((nats deeds).length : Nat) : Int)) (eInt (i := 0)) (eCell (D₁₀.cellAt (.tail _ (.tail _ (.tail _ (.head _))))) rfl rfl rfl (by decide)) (eLen ?na (lD (eLoc D₁₀ rfl rfl rfl rfl (by decide))) rfl ?sz) rfl).wp D₁₀ fun b g₁₁ h₁₁ D₁₁ G₁₁ eb => ?_
  case na => (first | exact evGlob (St.bas (by assumption)) rfl rfl rfl rfl (by decide) | exact evBuilt (St.bas (by assumption)) rfl rfl (by decide) rfl rfl rfl rfl (by decide))
  case sz => simp; (first | lia | omega)
  subst eb
  cases hrun with
  | done hend =>
    rw [if_neg (by simp; (first | lia | omega))]
    refine D₁₁.freezeK (.take .all) hPA fun g₁₂ D₁₂ s₁₂ dP => ?_
    refine D₁₂.freezeK (.take .all) hLG' fun g₁₃ D₁₃ s₁₃ dL => ?_
    have dP := dP.mono s₁₃
    refine sReturn (Wp_ListF D₁₃ (Wa_cons ((eCell (D₁₃.cellAt (.head _)) rfl rfl rfl (by decide)).wp D₁₃ fun v₁ g₁₄ h₁₄ D₁₄ G₁₄ dv₁ => Wa_cons (Wp_IfExp ((bGt (i := ce.place) (j := 0) (eCell (D₁₄.cellAt (.tail _ (.head _))) rfl rfl rfl (by decide)) eInt rfl).wp D₁₄ fun b g₁₅ h₁₅ D₁₅ G₁₅ eb => ⟨fun q => ?_, fun q => ?_⟩)) rfl) rfl))
    · subst eb
      rw [if_pos (of_decide_eq_true q)]
      cases dv₁.ref_inv
      refine (eLoc (d := .ref PA) D₁₅ rfl rfl rfl rfl (by decide)).wp D₁₅ fun v₂ g₁₆ h₁₆ D₁₆ G₁₆ dv₂ => Wa_nil ⟨g₁₆, _, _, D₁₆, .cons (dL.mono ((G₁₄.sub.trans G₁₅.sub).trans G₁₆.sub)) (.cons (by cases dv₂.ref_inv; exact dP.mono ((G₁₄.sub.trans G₁₅.sub).trans G₁₆.sub)) .nil), by simp only [List.length_cons, List.length_nil]; decide, fun v g₂ h₂ D s dv => ⟨v, g₂, rfl, by rw [hRec]; exact D.tail.tail.toRet, dv⟩⟩
    · subst eb
      rw [if_neg (of_decide_eq_false q)]
      cases dv₁.ref_inv
      refine eNone.wp D₁₅ fun v₂ g₁₆ h₁₆ D₁₆ G₁₆ dv₂ => Wa_nil ⟨g₁₆, _, _, D₁₆, .cons (dL.mono ((G₁₄.sub.trans G₁₅.sub).trans G₁₆.sub)) (.cons dv₂ .nil), by simp only [List.length_cons, List.length_nil]; decide, fun v g₂ h₂ D s dv => ⟨v, g₂, rfl, by rw [hRec]; exact D.tail.tail.toRet, dv⟩⟩
  | @step n a b e hlog hpile hstep hrun =>
    obtain ⟨pl, d, epl, hd⟩ := hstep.at
    have hpl : pl < deeds.length := (List.getElem?_eq_some_iff.mp hd).1
    rw [if_pos (by simp; (first | lia | omega))]
    have hdx : (nats deeds)[((pl : Int)).toNat]? = some (.int (d : Nat)) := by rw [Int.toNat_natCast, List.getElem?_map, hd]; rfl
    rw [epl] at D₁₁
    refine sAsgSw2 (d := .int ((d % 5 : Nat) : Int)) (e := .int ((d / 5 : Nat) : Int)) D₁₁ F R'.hn (eTup (aCons ?ca1 (aCons ?ca2 aNil rfl) rfl) (by simp only [List.length_cons, List.length_nil]; decide)) rfl rfl rfl rfl <| let l_1 : Loc := _; fun g₁₂ h₁₂ (D₁₂ : St _ _ _ _ _ l_1 _) s₁₂ => ?_
    case ca1 =>
      rw [show ((d % 5 : Nat) : Int) = (d : Int).fmod ((5 : Nat) : Int) by rw [fmod_nat]]
      exact eMod (eIdx (k := (pl : Int)) (lD (eLoc D₁₁ rfl rfl rfl rfl (by decide))) (eCell (D₁₁.cellAt (.tail _ (.tail _ (.tail _ (.head _))))) rfl rfl rfl (by decide)) (by (first | lia | omega)) hdx (by simp; (first | lia | omega)) fun _ _ => rfl) eInt (by decide)
    case ca2 =>
      rw [show ((d / 5 : Nat) : Int) = (d : Int).fdiv ((5 : Nat) : Int) by rw [fdiv_nat]]
      exact eDiv (eIdx (k := (pl : Int)) (lD (eLoc D₁₁ rfl rfl rfl rfl (by decide))) (eCell (D₁₁.cellAt (.tail _ (.tail _ (.tail _ (.head _))))) rfl rfl rfl (by decide)) (by (first | lia | omega)) hdx (by simp; (first | lia | omega)) fun _ _ => rfl) eInt (by decide) (PyProof.noPylong_small (by decide))
    refine sAssign (d := .int (if d % 5 = 4 then ((d / 5 : Nat) : Int) else (pl : Int) + 1)) D₁₂ F (eIf (b := ((d % 5 : Nat) : Int) == 4) (bEq (eLoc D₁₂ rfl rfl rfl rfl (by decide)) eInt rfl) (fun e => ?cb1) fun e => ?cb2) rfl rfl <| let l_2 : Loc := _; fun g₁₃ h₁₃ (D₁₃ : St _ _ _ _ _ l_2 _) s₁₃ => ?_
    case cb1 =>
      rw [if_pos (by have := eq_of_beq e; (first | lia | omega))]
      exact eLoc D₁₂ rfl rfl rfl rfl (by decide)
    case cb2 =>
      rw [if_neg (fun q => by rw [q] at e; simp at e)]
      exact eAdd (eCell (D₁₂.cellAt (.tail _ (.tail _ (.tail _ (.head _))))) rfl rfl rfl (by decide)) eInt
    have D₁₃ := D₁₃.weakL (loc' := (("onward", .int (if d % 5 = 4 then ((d / 5 : Nat) : Int) else (pl : Int) + 1)) :: ("kind", .int ((d % 5 : Nat) : Int)) :: ("part", .int ((d / 5 : Nat) : Int)) :: ("pile", .ref PA) :: base)) ⟨rfl, rfl, rfl, rfl, rfl, rfl, rfl, trivial⟩
    cases hstep with
    | @num log pile pl' part hd' hp =>
      refine Wp_gen fun Q kQ => ?_
      have epl : pl' = pl := Int.ofNat_inj.mp epl
      subst epl
      have ed : d = 5 * part := Option.some.inj (hd.symm.trans hd')
      subst ed
      rw [show 5 * part % 5 = 0 by (first | lia | omega), show 5 * part / 5 = part by (first | lia | omega), if_neg (by decide)] at D₁₃
      have hp2 : ((part : Int) - 1000).natAbs ≤ 4000 := by (first | lia | omega)
      have hlog : log.length ≤ 4000 := hlog
      have hpile : pile.length ≤ 4000 := hpile
      refine sIf D₁₃ (b := ((0 : Nat) : Int) == 0) (bEq (eLoc D₁₃ rfl rfl rfl rfl (by decide)) eInt rfl) (fun _ g₁₄ h₁₄ D₁₄ s₁₄ => ?_) fun e => by simp at e
      refine' sAssignW (Wp_CallKwT (f := 44) D₁₄ ?da1 (c.X _ _ rfl) rfl ⟨_, _, rfl⟩ fun g₁₅ h₁₅ D₁₅ s₁₅ => Wa_cons ((eLoc (d := .int part) D₁₅ rfl rfl rfl rfl (by decide)).wp D₁₅ fun v₁ g₁₆ h₁₆ D₁₆ G₁₆ dv₁ => Wa_cons (Wp_Lam (P := 142) D₁₆ F rfl (codeHd_of_K c.X rfl) (.tail _ (.tail _ (.tail _ (.tail _ (.tail _ (.tail _ (.head _))))))) rfl rfl fun f c' ctv g₁₇ h₁₇ D₁₇ s₁₇ ef Kf hf => Wa_nil ?_) rfl) rfl) rfl
      case da1 => (first | exact evGlob (St.bas (by assumption)) rfl rfl rfl rfl (by decide) | exact evBuilt (St.bas (by assumption)) rfl rfl (by decide) rfl rfl rfl rfl (by decide))
      refine (ev_back (eInt (i := 1000))).wp D₁₇ fun u₁ g₁₈ h₁₈ D₁₈ G₁₈ du₁ => ⟨g₁₈, _, D₁₈, ?_⟩
      have Sl : Sel ([(PA, OC.lst (pile.map .int)), (LG, .lst log), (L + 1 + 1, .cell (some (.ref LG))), (L + 1, .cell (some (.int (pl' : Int))))] ++ (runMu ++ mu)) [(LG, .lst log), (L + 1 + 1, .cell (some (.ref LG)))] ([(PA, .lst (pile.map .int)), (L + 1, .cell (some (.int (pl' : Int))))] ++ (runMu ++ mu)) := .skip (.take (.take .all))
      refine (name_spec (j := (part : Int) - 1000) (mu' := [(LG, .lst (log ++ [.int part])), (L + 1 + 1, .cell (some (.ref LG)))]) (R'.le (by (first | lia | omega)) (by (first | lia | omega))) (D₁₈.preSel Sl) (dv₁.mono (s₁₇.trans G₁₈.sub)) (.ref f) (G₁₈.sub _ _ ef) rfl ?lam).mono fun r' h' ⟨v₂, g₁₉, er, RR, dv₂⟩ => ?_
      case lam =>
        intro A' vs g₁ h₁ RA P₁ dvs sb
        obtain ⟨v', rfl, dv'⟩ := dvs.one_inv
        refine enterLam (dd := 1) (uu := 114) (binds := [("index", v'), ("less", u₁)]) (bd := [("less", .int 1000), ("index", .int part)]) P₁ (sb _ _ (G₁₈.sub _ _ ef)) ((Kf.mono G₁₈.sub).mono sb) RA rfl (locs rfl) (by decide) rfl rfl rfl (lookup2 dv' (du₁.mono sb)) fun L' h₂ D₂ F₂ R₂ => ?_
        refine Wp_SubF (j := 1) (d := .int ((part : Int) - 1000)) (by decide) (fun Z kZ => Wp_ListF D₂ (Wa_cons (Wp_appendE (d := .int part) D₂ (eFree (D₂.cellAt (.tail _ (.head _))) rfl rfl rfl (by decide) (by decide)) (eLoc D₂ rfl rfl rfl rfl (by decide)) .head (by rw [sizeLine_eq]; (first | lia | omega)) rfl rfl rfl fun g₃ h₃ D₃ s₃ => Wa_cons ((eSub (eLoc (d := .int part) D₃ rfl rfl rfl rfl (by decide)) (eLoc (d := .int 1000) D₃ rfl rfl rfl rfl (by decide))).wp D₃ fun v₄ g₄ h₄ D₄ G₄ dv₄ => Wa_nil ⟨g₄, _, [.none, .int ((part : Int) - 1000)], D₄, .cons .none (.cons dv₄ .nil), by simp only [List.length_cons, List.length_nil]; decide, fun v₅ g₅ h₅ D₅ s₅ dv₅ => kZ v₅ g₅ _ _ h₅ D₅ dv₅ rfl (by simp) eInt fun w g₆ h₆ D₆ s₆ dw => ⟨w, g₆, _, rfl, D₆.toRet, rfl, dw⟩⟩) rfl) rfl)) fun _ _ => rfl
      subst er
      have D₁₉ := (D₁₈.after Sl (fun k hk => hk) RR).perm (own' := [(PA, .lst (pile.map .int)), (LG, .lst (log ++ [.int part])), (L + 1 + 1, .cell (some (.ref LG))), (L + 1, .cell (some (.int (pl' : Int))))] ++ (runMu ++ mu)) (List.perm_middle (l₁ := [(LG, OC.lst (log ++ [.int part])), (L + 1 + 1, .cell (some (.ref LG)))])).symm
      generalize hq : (part : Int) - 1000 = q at *
      refine Wp_storeL D₁₉ dv₂ F rfl <| let l_3 : Loc := _; fun h₂₀ (D₂₀ : St _ _ _ _ _ l_3 _) => ?_
      refine sExtendW D₂₀ (eCell (D₂₀.cellAt (.tail _ (.tail _ (.head _)))) rfl rfl rfl (by decide)) (.tail _ (.head _)) (fun g₂₁ h₂₁ D₂₁ s₂₁ Z kZ => ?_) rfl rfl rfl rfl rfl
      refine Wp_addW D₂₁ (eList (aCons (eLoc (d := .tup [.int q, .int q]) D₂₁ rfl rfl rfl rfl (by decide)) aNil rfl) (by simp only [List.length_cons, List.length_nil]; decide)) fun a' g₂₂ h₂₂ D₂₂ hn₂₂ s₂₂ Z' kZ' => ?_
      refine Wp_compE D₂₂ (srcTup D₂₂ R'.hn (eLoc D₂₂ rfl rfl rfl rfl (by decide)) fun _ _ => rfl) rfl (by decide) rfl (by decide) (fun _ => rfl) _ ⟨rfl, rfl⟩ (JP.size (by show 2 ≤ sizeLine; decide)) (cturnN (f := fun _ => .str (iText q)) F rfl rfl fun i g₂₃ own₂₃ C h₂₃ hi D₂₃ hm s₂₃ => ?el) ?fin
      case el =>
        rcases (show i = 0 ∨ i = 1 by simp at hi; (first | lia | omega)) with rfl | rfl
        · refine eStrI (by (first | exact evGlob (St.bas (by assumption)) rfl rfl rfl rfl (by decide) | exact evBuilt (St.bas (by assumption)) rfl rfl (by decide) rfl rfl rfl rfl (by decide))) (eLoc D₂₃ rfl rfl rfl rfl (by decide)) (log_small ?_) rfl
          (first | lia | omega)
        · refine eStrI (by (first | exact evGlob (St.bas (by assumption)) rfl rfl rfl rfl (by decide) | exact evBuilt (St.bas (by assumption)) rfl rfl (by decide) rfl rfl rfl rfl (by decide))) (eLoc D₂₃ rfl rfl rfl rfl (by decide)) (log_small ?_) rfl
          (first | lia | omega)
      case fin =>
        intro acc ds' g₂₄ g₂₅ own₂₅ h₂₅ hacc ⟨eo, eds⟩ s₂₄ s₂₅ D₂₅
        subst eo eds
        refine kZ' acc g₂₅ [.str (iText q), .str (iText q)] _ _ D₂₅ (s₂₄.trans s₂₅) (by simp only [List.length_cons, List.length_nil]; decide) fun x' g₂₆ h₂₆ D₂₆ hx' s₂₆ => ?_
        refine kZ x' g₂₆ _ _ (log ++ [.int part]) (told3 q q) _ D₂₆ ((s₂₂.trans (s₂₄.trans s₂₅)).trans s₂₆) (D₂₆.lstAt (.head _)) (.tail (.tail .head)) (by simp only [List.length_append, List.length_cons, List.length_nil, sizeLine_eq] at *; (first | lia | omega)) fun g₂₇ h₂₇ D₂₇ s₂₇ => ?_
        refine sAppend (d := .int q) D₂₇.tail (eLoc D₂₇.tail rfl rfl rfl rfl (by decide)) (eIdxT (k := 0) (j := 0) (eLoc (d := .tup [.int q, .int q]) D₂₇.tail rfl rfl rfl rfl (by decide)) eInt rfl rfl (by decide) (by decide) fun _ _ => rfl) .head (by rw [List.length_map, sizeLine_eq]; (first | lia | omega)) rfl rfl rfl rfl rfl <| let o_4 : Led := _; fun g₂₈ h₂₈ (D₂₈ : St _ _ _ o_4 _ _ _) s₂₈ => ?_
        refine sAssignC D₂₈ F (eLoc (d := .int ((pl' : Int) + 1)) D₂₈ rfl rfl rfl rfl (by decide)) rfl rfl (.tail (.tail (.tail .head))) rfl fun g' h' D' s' => sNil (kQ _ _ ⟨n, by (first | lia | omega), _, g', PA, hrun, hPA, ?_⟩)
        have D' := (D'.weakL (loc' := (("pile", .ref PA) :: base)) ⟨rfl, rfl, rfl, rfl, trivial⟩)
        exact D'.oe (by simp)
    | @dist log pile pl' part hd' hp =>
      refine Wp_gen fun Q kQ => ?_
      have epl : pl' = pl := Int.ofNat_inj.mp epl
      subst epl
      have ed : d = 5 * part + 1 := Option.some.inj (hd.symm.trans hd')
      subst ed
      rw [show (5 * part + 1) % 5 = 1 by (first | lia | omega), show (5 * part + 1) / 5 = part by (first | lia | omega), if_neg (by decide)] at D₁₃
      have hlog : log.length ≤ 4000 := hlog
      have hpile : pile.length ≤ 4000 := hpile
      have h4 := W.four
      have hap := W.ap (part / 4) (part % 4)
      refine sIf D₁₃ (b := ((1 : Nat) : Int) == 0) (bEq (eLoc D₁₃ rfl rfl rfl rfl (by decide)) eInt rfl) (fun e => by simp at e) fun _ g₁₄ h₁₄ D₁₄ s₁₄ => ?_
      refine sIf D₁₄ (b := ((1 : Nat) : Int) == 1) (bEq (eLoc D₁₄ rfl rfl rfl rfl (by decide)) eInt rfl) (fun _ g₁₅ h₁₅ D₁₅ s₁₅ => ?_) fun e => by simp at e
      refine sAssign (d := .lst [.str (S (ws.getD (part / 4) [])), .str (S (ws.getD (part % 4) []))]) D₁₅ F (eFz (eList (aCons (eIdx (k := ((part / 4 : Nat) : Int)) (lD (eLoc D₁₅ rfl rfl rfl rfl (by decide))) ?ca3 (by (first | lia | omega)) (wdts_at (by (first | lia | omega))) (by simp; (first | lia | omega)) fun _ _ => rfl) (aCons (eIdx (k := ((part % 4 : Nat) : Int)) (lD (eLoc D₁₅ rfl rfl rfl rfl (by decide))) ?ca4 (by (first | lia | omega)) (wdts_at (by (first | lia | omega))) (by simp; (first | lia | omega)) fun _ _ => rfl) aNil rfl) rfl) (by simp only [List.length_cons, List.length_nil]; decide))) rfl rfl <| let l_5 : Loc := _; fun g₁₆ h₁₆ (D₁₆ : St _ _ _ _ _ l_5 _) s₁₆ => ?_
      case ca3 =>
        rw [show ((part / 4 : Nat) : Int) = (part : Int).fdiv ((4 : Nat) : Int) by rw [fdiv_nat]]
        exact eDiv (eLoc D₁₅ rfl rfl rfl rfl (by decide)) eInt (by decide) (PyProof.noPylong_small (by decide))
      case ca4 =>
        rw [show ((part % 4 : Nat) : Int) = (part : Int).fmod ((4 : Nat) : Int) by rw [fmod_nat]]
        exact eMod (eLoc D₁₅ rfl rfl rfl rfl (by decide)) eInt (by decide)
      have hx0 : ∀ {g' : FB} {h' : Heap} {loc' : Loc} {own' : Led} {np sp : Pos} {kk : Nat} {ip : Pos}, St c r g' own' L loc' h' → True := fun _ => trivial
      refine' sAppend (d := .int (wpart ws part)) D₁₆ (eLoc D₁₆ rfl rfl rfl rfl (by decide)) (eCallF (f := 107) D₁₆.bas ?da1 (c.X _ _ rfl) rfl
        (aCons (d := .str (S (ws.getD (part / 4) []))) (eIdx (k := 0) (lD (eLoc D₁₆ rfl rfl rfl rfl (by decide))) eInt (by decide) rfl (by simp) fun _ _ => rfl) (aCons (d := .str (S (ws.getD (part % 4) []))) (eIdx (k := 1) (lD (eLoc D₁₆ rfl rfl rfl rfl (by decide))) eInt (by decide) rfl (by simp) fun _ _ => rfl)
          (aCons (d := .int (wpart ws part - 1 + ((part % 3 : Nat) : Int))) ?da2 aNil rfl) rfl) rfl) ⟨_, _, rfl⟩ ?da3) .head (by rw [List.length_map, sizeLine_eq]; (first | lia | omega)) rfl rfl rfl rfl rfl fun g₁₇ h₁₇ D₁₇ s₁₇ => ?_
      case da1 => (first | exact evGlob (St.bas (by assumption)) rfl rfl rfl rfl (by decide) | exact evBuilt (St.bas (by assumption)) rfl rfl (by decide) rfl rfl rfl rfl (by decide))
      case da2 =>
        rw [show ((part % 3 : Nat) : Int) = (part : Int).fmod ((3 : Nat) : Int) by rw [fmod_nat]]
        refine eAdd (eSub (eCallF (f := 152) D₁₆.bas (by (first | exact evGlob (St.bas (by assumption)) rfl rfl rfl rfl (by decide) | exact evBuilt (St.bas (by assumption)) rfl rfl (by decide) rfl rfl rfl rfl (by decide))) (c.X _ _ rfl) rfl
          (aCons (d := .str (S (ws.getD (part / 4) []))) (eIdx (k := 0) (lD (eLoc D₁₆ rfl rfl rfl rfl (by decide))) eInt (by decide) rfl (by simp) fun _ _ => rfl) (aCons (d := .str (S (ws.getD (part % 4) []))) (eIdx (k := 1) (lD (eLoc D₁₆ rfl rfl rfl rfl (by decide))) eInt (by decide) rfl (by simp) fun _ _ => rfl) aNil rfl) rfl) ⟨_, _, rfl⟩ fun vs g' h' G' dv => ?_) eInt) (eMod (eLoc D₁₆ rfl rfl rfl rfl (by decide)) eInt (by decide))
        obtain ⟨v₁, v₂, rfl, d₁, d₂⟩ := dv.two_inv
        exact apart_spec (R'.le (by (first | lia | omega)) (by (first | lia | omega))) (D₁₆.bas.gr G').pre d₁ d₂ (W.low _) (W.low _)
      case da3 =>
        intro vs g' h' G' dv
        obtain ⟨v₁, v₂, v₃, rfl, d₁, d₂, d₃⟩ := dv.three_inv
        exact lev_spec (R'.le (by (first | lia | omega)) (by (first | lia | omega))) (D₁₆.bas.gr G').pre d₁ d₂ d₃ (W.lows _) (W.lows _) (W.lev _ _) (by unfold wpart; (first | lia | omega))
      refine' sAppend (d := .str (iText (wpart ws part))) D₁₇ (eCell (D₁₇.cellAt (.tail _ (.tail _ (.head _)))) rfl rfl rfl (by decide)) (eStrI ?ea1 (eIdxN (k := -1) (lR (eLoc D₁₇ rfl rfl rfl rfl (by decide)) (D₁₇.lstAt (.head _))) (eNeg eInt) (by decide) (by simp; (first | lia | omega)) ?ea2 (by simp only [List.length_append, List.length_map, List.length_cons, List.length_nil] at *; (first | lia | omega)) fun _ _ => rfl) (log_small (by unfold wpart; (first | lia | omega))) rfl) (.tail .head) (by rw [sizeLine_eq]; (first | lia | omega)) rfl rfl rfl rfl rfl <| let o_6 : Led := _; fun g₁₈ h₁₈ (D₁₈ : St _ _ _ o_6 _ _ _) s₁₈ => ?_
      case ea1 => (first | exact evGlob (St.bas (by assumption)) rfl rfl rfl rfl (by decide) | exact evBuilt (St.bas (by assumption)) rfl rfl (by decide) rfl rfl rfl rfl (by decide))
      case ea2 =>
        rw [List.length_append, show ((-1 : Int) + (((pile.map Dt.int).length + [Dt.int (wpart ws part)].length : Nat) : Int)).toNat = (pile.map Dt.int).length by simp; (first | lia | omega)]
        simp
      refine sAssignC D₁₈ F (eLoc (d := .int ((pl' : Int) + 1)) D₁₈ rfl rfl rfl rfl (by decide)) rfl rfl (.tail (.tail (.tail .head))) rfl fun g' h' D' s' => sNil (kQ _ _ ⟨n, by (first | lia | omega), _, g', PA, hrun, hPA, ?_⟩)
      have D' := (D'.weakL (loc' := (("pile", .ref PA) :: base)) ⟨rfl, rfl, rfl, rfl, trivial⟩)
      exact D'.oe (by simp)
    | @div log pile pl' k x y hd' hk hy hx1 hy1 =>
      refine Wp_gen fun Q kQ => ?_
      have epl : pl' = pl := Int.ofNat_inj.mp epl
      subst epl
      have ed : d = k := Option.some.inj (hd.symm.trans hd')
      subst ed
      rw [show d % 5 = d by (first | lia | omega), if_neg (by (first | lia | omega))] at D₁₃
      have hlog : log.length ≤ 4000 := hlog
      have hpile : (pile ++ [x, y]).length ≤ 4000 := hpile
      have hpl2 : pile.length ≤ 4000 := by simp at hpile; (first | lia | omega)
      have hq := fdiv_small (a := x) hy
      have hr := fmod_small (a := x) hy
      refine sIf D₁₃ (b := ((d : Nat) : Int) == 0) (bEq (eLoc D₁₃ rfl rfl rfl rfl (by decide)) eInt rfl) (fun e => by have := eq_of_beq e; (first | lia | omega)) fun _ g₁₄ h₁₄ D₁₄ s₁₄ => ?_
      refine sIf D₁₄ (b := ((d : Nat) : Int) == 1) (bEq (eLoc D₁₄ rfl rfl rfl rfl (by decide)) eInt rfl) (fun e => by have := eq_of_beq e; (first | lia | omega)) fun _ g₁₅ h₁₅ D₁₅ s₁₅ => ?_
      refine sIf D₁₅ (b := decide (((d : Nat) : Int) < 4)) (bLt (eLoc D₁₅ rfl rfl rfl rfl (by decide)) eInt rfl) (fun _ g₁₆ h₁₆ D₁₆ s₁₆ => ?_) fun e => by have := of_decide_eq_false e; (first | lia | omega)
      have hL1 : ((pile ++ [x, y]).map Dt.int)[((-2 : Int) + (((pile ++ [x, y]).map Dt.int).length : Nat)).toNat]? = some (.int x) := by
        rw [List.length_map, List.length_append, show ((-2 : Int) + ((pile.length + [x, y].length : Nat) : Int)).toNat = pile.length by simp; (first | lia | omega)]
        simp
      have hL2 : ((pile ++ [x, y]).map Dt.int)[((-1 : Int) + (((pile ++ [x, y]).map Dt.int).length : Nat)).toNat]? = some (.int y) := by
        rw [List.length_map, List.length_append, show ((-1 : Int) + ((pile.length + [x, y].length : Nat) : Int)).toNat = pile.length + 1 by simp; (first | lia | omega)]
        simp
      have hLn : ((pile ++ [x, y]).map Dt.int).length ≤ 4000 := by rw [List.length_map]; exact hpile
      have hLn2 : 2 ≤ ((pile ++ [x, y]).map Dt.int).length := by simp
      have D₁₆ : St c r g₁₆ ([(PA, .lst ((pile ++ [x, y]).map .int)), (LG, .lst log), (L + 1 + 1, .cell (some (.ref LG))), (L + 1, .cell (some (.int (pl' : Int))))] ++ (runMu ++ mu)) L _ h₁₆ := D₁₆
      refine sTry ?_
      refine' sAssignW (Wp_CallM (f := 93) (ks := [67, 74]) (Post := fun g' v own' => own' = [(67, tabI2), (74, tabD2)] ∧ Den g' v (.tup [.int (x.fdiv y), .int (x.fmod y)])) D₁₆ ?da1 (c.X _ _ rfl) rfl
        (aCons (d := .int x) (eIdxN (k := -2) (lR (eLoc D₁₆ rfl rfl rfl rfl (by decide)) (D₁₆.lstAt (.head _))) (eNeg eInt) (by decide) (by (first | lia | omega)) hL1 (by (first | lia | omega)) fun _ _ => rfl) (aCons (d := .int y) (eIdxN (k := -1) (lR (eLoc D₁₆ rfl rfl rfl rfl (by decide)) (D₁₆.lstAt (.head _))) (eNeg eInt) (by decide) (by (first | lia | omega)) hL2 (by (first | lia | omega)) fun _ _ => rfl) aNil rfl) rfl) ⟨_, _, rfl⟩
        (.skip (.skip (.skip (.skip (.take (.take .all)))))) (by simp) ?spec ?kk) rfl
      case da1 => (first | exact evGlob (St.bas (by assumption)) rfl rfl rfl rfl (by decide) | exact evBuilt (St.bas (by assumption)) rfl rfl (by decide) rfl rfl rfl rfl (by decide))
      case spec =>
        intro vs g₁ h₁ P₁ dv sb
        obtain ⟨v₁, v₂, rfl, d₁, d₂⟩ := dv.two_inv
        exact idm_spec 2 (by (first | lia | omega)) (R'.le (by (first | lia | omega)) (by (first | lia | omega))) P₁ d₁ d₂ (by (first | lia | omega)) (by (first | lia | omega)) hy (fun q => by (first | lia | omega)) fun q => by (first | lia | omega)
      case kk =>
      intro v₁₇ g₁₇ own₁₇ h₁₇ D₁₇ s₁₇ ⟨eo, dv₁₇⟩
      subst eo
      have D₁₇ := D₁₇.mids (pre := [(PA, .lst ((pile ++ [x, y]).map .int)), (LG, .lst log), (L + 1 + 1, .cell (some (.ref LG))), (L + 1, .cell (some (.int (pl' : Int))))]) (own := (142, tabLm) :: mu)
      have D₁₇ : St c r g₁₇ ([(PA, .lst ((pile ++ [x, y]).map .int)), (LG, .lst log), (L + 1 + 1, .cell (some (.ref LG))), (L + 1, .cell (some (.int (pl' : Int))))] ++ (runMu ++ mu)) L _ h₁₇ := D₁₇
      generalize hQ : x.fdiv y = q at *
      generalize hR : x.fmod y = s at *
      refine Wp_storeL D₁₇ dv₁₇ F rfl <| let l_7 : Loc := _; fun h₂₀ (D₂₀ : St _ _ _ _ _ l_7 _) => ?_
      refine sExtendW D₂₀ (eCell (D₂₀.cellAt (.tail _ (.tail _ (.head _)))) rfl rfl rfl (by decide)) (.tail _ (.head _)) (fun g₂₁ h₂₁ D₂₁ s₂₁ Z kZ => ?_) rfl rfl rfl rfl rfl
      refine Wp_addW D₂₁ (eList (aCons (eLoc (d := .tup [.int q, .int s]) D₂₁ rfl rfl rfl rfl (by decide)) aNil rfl) (by simp only [List.length_cons, List.length_nil]; decide)) fun a' g₂₂ h₂₂ D₂₂ hn₂₂ s₂₂ Z' kZ' => ?_
      refine Wp_compE D₂₂ (srcTup D₂₂ R'.hn (eLoc D₂₂ rfl rfl rfl rfl (by decide)) fun _ _ => rfl) rfl (by decide) rfl (by decide) (fun _ => rfl) _ ⟨rfl, rfl⟩ (JP.size (by show 2 ≤ sizeLine; decide)) (cturnN (f := fun i => .str (iText (if i = 0 then q else s))) F rfl rfl fun i g₂₃ own₂₃ C h₂₃ hi D₂₃ hm s₂₃ => ?el) ?fin
      case el =>
        rcases (show i = 0 ∨ i = 1 by simp at hi; (first | lia | omega)) with rfl | rfl
        · refine eStrI (by (first | exact evGlob (St.bas (by assumption)) rfl rfl rfl rfl (by decide) | exact evBuilt (St.bas (by assumption)) rfl rfl (by decide) rfl rfl rfl rfl (by decide))) (eLoc D₂₃ rfl rfl rfl rfl (by decide)) (log_small ?_) rfl
          rw [if_pos rfl]; (first | lia | omega)
        · refine eStrI (by (first | exact evGlob (St.bas (by assumption)) rfl rfl rfl rfl (by decide) | exact evBuilt (St.bas (by assumption)) rfl rfl (by decide) rfl rfl rfl rfl (by decide))) (eLoc D₂₃ rfl rfl rfl rfl (by decide)) (log_small ?_) rfl
          rw [if_neg (by decide)]; (first | lia | omega)
      case fin =>
        intro acc ds' g₂₄ g₂₅ own₂₅ h₂₅ hacc ⟨eo, eds⟩ s₂₄ s₂₅ D₂₅
        subst eo eds
        refine kZ' acc g₂₅ [.str (iText q), .str (iText s)] _ _ D₂₅ (s₂₄.trans s₂₅) (by simp only [List.length_cons, List.length_nil]; decide) fun x' g₂₆ h₂₆ D₂₆ hx' s₂₆ => ?_
        refine kZ x' g₂₆ _ _ (log) (told3 q s) _ D₂₆ ((s₂₂.trans (s₂₄.trans s₂₅)).trans s₂₆) (D₂₆.lstAt (.head _)) (.tail (.tail .head)) (by simp only [List.length_append, List.length_cons, List.length_nil, sizeLine_eq] at *; (first | lia | omega)) fun g₂₇ h₂₇ D₂₇ s₂₇ => ?_
        have D₂₇ := D₂₇.tail
        have ek : ∃ j, seqIndex? ((d : Int) - 2) 2 = some j ∧ [Dt.int q, Dt.int s][j]? = some (.int (if d = 2 then q else s)) := by
          rcases hk with rfl | rfl
          · exact ⟨0, rfl, rfl⟩
          · exact ⟨1, rfl, rfl⟩
        obtain ⟨j, ej, ej2⟩ := ek
        have epk : pickL ((pile ++ [x, y]).map Dt.int) none (some (-2)) none = pile.map Dt.int := by
          rw [pickL_cut]
          show cut _ none (some (-((2 : Nat) : Int))) = _
          rw [cut_toN _ _ (by decide), List.length_map, ← List.map_take]
          simp
        refine sAssignN (ds := (pile ++ [if d = 2 then q else s]).map .int) D₂₇ F ?nn rfl rfl fun NA g₂₈ h₂₈ D₂₈ hNA s₂₈ => sNil ?_
        case nn =>
          rw [show (pile ++ [if d = 2 then q else s]).map Dt.int = pickL ((pile ++ [x, y]).map Dt.int) none (some (-2)) none ++ [.int (if d = 2 then q else s)] by rw [epk, List.map_append]; rfl]
          refine nAdd (lN D₂₇.gr (nSlice (lR (eLoc (d := .ref PA) D₂₇ rfl rfl rfl rfl (by decide)) (D₂₇.lstAt (.head _))) pNone (pInt (eNeg eInt)) pNone (by simp) (by rw [sizeLine_eq]; (first | lia | omega)) fun _ _ => ⟨_, rfl⟩)) (lN D₂₇.gr (eList (aCons (d := .int (if d = 2 then q else s)) (eIdxT (k := (d : Int) - 2) (j := j) (eLoc (d := .tup [.int q, .int s]) D₂₇ rfl rfl rfl rfl (by decide)) (eSub (eLoc D₂₇ rfl rfl rfl rfl (by decide)) eInt) ej ej2 (by (first | lia | omega)) (by (first | lia | omega)) fun _ _ => rfl) aNil rfl) (by simp only [List.length_cons, List.length_nil]; decide))) ?_
          rw [epk, List.length_map, sizeLine_eq]; simp; (first | lia | omega)
        refine sNil ?_
        have D₂₉ := D₂₈.let_ (pre := [(NA, .lst ((pile ++ [if d = 2 then q else s]).map .int))]) (.take .all)
        refine sAssignC D₂₉ F (eLoc (d := .int ((pl' : Int) + 1)) D₂₉ rfl rfl rfl rfl (by decide)) rfl rfl (.tail (.tail (.tail .head))) rfl fun g' h' D' s' => sNil (kQ _ _ ⟨n, by (first | lia | omega), _, g', NA, hrun, hNA, ?_⟩)
        have D' := (D'.weakL (loc' := (("pile", .ref NA) :: base)) ⟨rfl, rfl, rfl, rfl, trivial⟩)
        exact D'
    | @stop log pile pl' k x m hd' hk hm =>
      refine Wp_gen fun Q kQ => ?_
      have epl : pl' = pl := Int.ofNat_inj.mp epl
      subst epl
      have ed : d = k := Option.some.inj (hd.symm.trans hd')
      subst ed
      rw [show d % 5 = d by (first | lia | omega), if_neg (by (first | lia | omega))] at D₁₃
      have hlog : log.length ≤ 4000 := hlog
      have hpile : (pile ++ [x, 0]).length ≤ 4000 := hpile
      have hpl2 : pile.length ≤ 4000 := by simp at hpile; (first | lia | omega)
      refine sIf D₁₃ (b := ((d : Nat) : Int) == 0) (bEq (eLoc D₁₃ rfl rfl rfl rfl (by decide)) eInt rfl) (fun e => by have := eq_of_beq e; (first | lia | omega)) fun _ g₁₄ h₁₄ D₁₄ s₁₄ => ?_
      refine sIf D₁₄ (b := ((d : Nat) : Int) == 1) (bEq (eLoc D₁₄ rfl rfl rfl rfl (by decide)) eInt rfl) (fun e => by have := eq_of_beq e; (first | lia | omega)) fun _ g₁₅ h₁₅ D₁₅ s₁₅ => ?_
      refine sIf D₁₅ (b := decide (((d : Nat) : Int) < 4)) (bLt (eLoc D₁₅ rfl rfl rfl rfl (by decide)) eInt rfl) (fun _ g₁₆ h₁₆ D₁₆ s₁₆ => ?_) fun e => by have := of_decide_eq_false e; (first | lia | omega)
      have hL1 : ((pile ++ [x, 0]).map Dt.int)[((-2 : Int) + (((pile ++ [x, 0]).map Dt.int).length : Nat)).toNat]? = some (.int x) := by
        rw [List.length_map, List.length_append, show ((-2 : Int) + ((pile.length + [x, 0].length : Nat) : Int)).toNat = pile.length by simp; (first | lia | omega)]
        simp
      have hL2 : ((pile ++ [x, 0]).map Dt.int)[((-1 : Int) + (((pile ++ [x, 0]).map Dt.int).length : Nat)).toNat]? = some (.int 0) := by
        rw [List.length_map, List.length_append, show ((-1 : Int) + ((pile.length + [x, 0].length : Nat) : Int)).toNat = pile.length + 1 by simp; (first | lia | omega)]
        simp
      have hLn : ((pile ++ [x, 0]).map Dt.int).length ≤ 4000 := by rw [List.length_map]; exact hpile
      have hLn2 : 2 ≤ ((pile ++ [x, 0]).map Dt.int).length := by simp
      have D₁₆ : St c r g₁₆ ([(PA, .lst ((pile ++ [x, 0]).map .int)), (LG, .lst log), (L + 1 + 1, .cell (some (.ref LG))), (L + 1, .cell (some (.int (pl' : Int))))] ++ (runMu ++ mu)) L _ h₁₆ := D₁₆
      refine sTry ?_
      refine' sAssignW (Wp_CallX (f := 93) (ks := L :: mu.map (·.1)) (mu := mu) (Post := fun _ _ _ => False) (PostE := fun g' e own' => ∃ a T t0, e = .ref a ∧ own' = (T, .tb .none) :: (a, .exc "ZeroDivisionError" t0 (some T)) :: mu ∧ g' t0 = some (tupOf [] 0)) D₁₆ ?da1 (c.X _ _ rfl) rfl
        (aCons (d := .int x) (eIdxN (k := -2) (lR (eLoc D₁₆ rfl rfl rfl rfl (by decide)) (D₁₆.lstAt (.head _))) (eNeg eInt) (by decide) (by (first | lia | omega)) hL1 (by (first | lia | omega)) fun _ _ => rfl) (aCons (d := .int 0) (eIdxN (k := -1) (lR (eLoc D₁₆ rfl rfl rfl rfl (by decide)) (D₁₆.lstAt (.head _))) (eNeg eInt) (by decide) (by (first | lia | omega)) hL2 (by (first | lia | omega)) fun _ _ => rfl) aNil rfl) rfl) ⟨_, _, rfl⟩
        (.skip (.skip (.skip (.skip (.skip (.skip (.skip (Sel.whole mu)))))))) (by simp) ?spec (fun _ _ _ _ _ _ q => q.elim) ?kE) rfl
      case da1 => (first | exact evGlob (St.bas (by assumption)) rfl rfl rfl rfl (by decide) | exact evBuilt (St.bas (by assumption)) rfl rfl (by decide) rfl rfl rfl rfl (by decide))
      case spec =>
        intro m' vs g₁ h₁ P₁ dv sb
        obtain ⟨v₁, v₂, rfl, d₁, d₂⟩ := dv.two_inv
        exact (idz_spec (R'.le (by (first | lia | omega)) (by (first | lia | omega))) P₁ (K.push rfl rfl) d₁ d₂).mono fun r' h' ⟨e, T, t0, g', er, RR, ht⟩ => .inr ⟨.ref e, g', (T, .tb .none) :: (e, .exc "ZeroDivisionError" t0 (some T)) :: mu, er, RR.perm (List.perm_middle (l₁ := [(T, OC.tb .none), (e, .exc "ZeroDivisionError" t0 (some T))])).symm, e, T, t0, rfl, rfl, ht⟩
      case kE =>
      rintro ev g₁₇ own₁₇ h₁₇ D₁₇ s₁₇ ⟨e, T, t0, rfl, rfl, ht⟩
      have D₁₇ : St c r g₁₇ ((T, .tb .none) :: (e, .exc "ZeroDivisionError" t0 (some T)) :: (mu ++ ([(PA, .lst ((pile ++ [x, 0]).map .int)), (LG, .lst log), (L + 1 + 1, .cell (some (.ref LG))), (L + 1, .cell (some (.int (pl' : Int))))] ++ runMu))) L _ h₁₇ := D₁₇
      refine Wp_note1 (x := .none) (ow := fun T' => (T, .tb .none) :: (e, .exc "ZeroDivisionError" t0 (some T')) :: (mu ++ ([(PA, .lst ((pile ++ [x, 0]).map .int)), (LG, .lst log), (L + 1 + 1, .cell (some (.ref LG))), (L + 1, .cell (some (.int (pl' : Int))))] ++ runMu))) D₁₇ (K.hot rfl rfl fun p hp => .tail _ (.tail _ (List.mem_append_left _ hp))) .head (.tail _ (.head _)) (by intro q; cases q) (fun T' => .tail .head) fun T' h₁₈ D₁₈ => ?_
      refine Wp_flight D₁₈ (.tail _ (.tail _ (.head _))) .head fun h₁₉ D₁₉ => ?_
      refine Wp_handleAs (T' := "ZeroDivisionError") D₁₉ F (.tail _ (.tail _ (.head _))) (.head _) isExc_ZDE PySem.F.notTuple_ZeroDivisionError PySem.F.self_ZeroDivisionError rfl (by (first | exact evGlob (St.bas (by assumption)) rfl rfl rfl rfl (by decide) | exact evBuilt (St.bas (by assumption)) rfl rfl (by decide) rfl rfl rfl rfl (by decide))) fun g₂₀ h₂₀ D₂₀ s₂₀ Z kZ => ?_
      have hen : r.h.get? e = none := by
        have D' := D₂₀.tail.tail
        have nd := (List.nodup_cons.mp D'.nd).1
        rcases D'.os _ (.head _) with z | z
        · refine absurd ?_ nd
          rw [← hRec] at z
          simp only [List.map_append, List.mem_append] at z ⊢
          rcases z with z | z
          · exact .inr (.inr z)
          · exact .inl z
        · exact z
      obtain ⟨oe, ⟨ecl, vse, edt, ev0, ev1, ev2⟩, D₂₁, s₂₁, ee⟩ := D₂₀.tail.tail.freeze (.take .all) hen
      have hx : Hnd _ e := ⟨oe, vse, ee, edt, ev2⟩
      have D₂₁ := D₂₁.perm (own' := [(PA, .lst ((pile ++ [x, 0]).map .int)), (LG, .lst log), (L + 1 + 1, .cell (some (.ref LG))), (L + 1, .cell (some (.int (pl' : Int))))] ++ (runMu ++ mu)) (List.perm_append_comm (l₁ := [(PA, OC.lst ((pile ++ [x, 0]).map .int)), (LG, .lst log), (L + 1 + 1, .cell (some (.ref LG))), (L + 1, .cell (some (.int (pl' : Int))))] ++ runMu) (l₂ := mu))
      have D₂₁ := D₂₁.weakL (loc' := (("fault", .ref e) :: ("pile", .ref PA) :: base)) ⟨rfl, rfl, rfl, rfl, rfl, trivial⟩
      have esn : (("none" : Str) ++ Str.empty) = ("none" : Str) := rfl
      refine' sAppend (d := .str "none") D₂₁ (eCell (D₂₁.cellAt (.tail _ (.tail _ (.head _)))) rfl rfl rfl (by decide)) ?ha1 (.tail .head) (by rw [sizeLine_eq]; (first | lia | omega)) rfl rfl rfl rfl rfl <| let o_8 : Led := _; fun g₂₂ h₂₂ (D₂₂ : St _ _ _ o_8 _ _ _) s₂₂ => ?_
      case ha1 =>
        rw [← esn]
        refine eAddS eStr (eStrX (x := e) (t0 := t0) PySem.F.excStr_ZeroDivisionError ?_ (by (first | exact evGlob (St.bas (by assumption)) rfl rfl rfl rfl (by decide) | exact evBuilt (St.bas (by assumption)) rfl rfl (by decide) rfl rfl rfl rfl (by decide))) (eLoc D₂₁ rfl rfl rfl rfl (by decide)) ⟨oe, vse, ee, ecl, edt, ev0⟩ ((s₂₀.trans s₂₁) _ _ ht) rfl) (by decide)
        exact Nat.lt_of_le_of_lt (Nat.add_le_add_left (show 2 ≤ 297 by decide) _) R'.u
      have hx₂ := hx.mono s₂₂
      refine sAssignW (Wp_addW2 (r := r) (L := L) (loc := (("fault", .ref e) :: ("pile", .ref PA) :: base)) fun Z' kZ' => ?_) rfl
      refine Wp_compE D₂₂ (srcListH D₂₂ rfl hx₂ (eLoc (d := .lst (rows.map R4.dt)) D₂₂ rfl rfl rfl rfl (by decide)) fun _ _ => rfl) rfl (by decide) rfl (by decide) (fun _ => rfl) _ ⟨rfl, rfl⟩ (JP.size (by rw [List.length_map, sizeLine_eq]; (first | lia | omega)))
        (cturnN1 (p := fun i => decide ((rows.getD i ⟨0, 0, -1, 0⟩).p ≤ (pl' : Int)) && decide ((pl' : Int) < (rows.getD i ⟨0, 0, -1, 0⟩).p + (rows.getD i ⟨0, 0, -1, 0⟩).n)) (f := fun i => (rows.getD i ⟨0, 0, -1, 0⟩).dt) F rfl rfl (fun i g₂₃ own₂₃ C h₂₃ hi D₂₃ hm s₂₃ => ?te) fun i g₂₃ own₂₃ C h₂₃ hi hp D₂₃ hm s₂₃ => ?el) ?fin
      case te =>
        rw [List.length_map] at hi
        have D₂₃ : St c r g₂₃ own₂₃ C [("row", (rows.getD i ⟨0, 0, -1, 0⟩).dt)] h₂₃ := by
          have e : (rows.map R4.dt).getD i .none = (rows.getD i ⟨0, 0, -1, 0⟩).dt := by
            simp [List.getD_eq_getElem?_getD, List.getElem?_eq_getElem hi]
          rw [← e]; exact D₂₃
        generalize rows.getD i ⟨0, 0, -1, 0⟩ = rw at *
        exact bLeLt (eIdx (lD (eLoc (d := rw.dt) D₂₃ rfl rfl rfl rfl (by decide))) eInt (by decide) rfl (by simp) fun _ _ => rfl) (eCell (D₂₃.cellAt (hm _ (.tail _ (.tail _ (.tail _ (.head _)))))) rfl rfl rfl (by decide)) (eAdd (eIdx (lD (eLoc (d := rw.dt) D₂₃ rfl rfl rfl rfl (by decide))) eInt (by decide) rfl (by simp) fun _ _ => rfl) (eIdx (lD (eLoc (d := rw.dt) D₂₃ rfl rfl rfl rfl (by decide))) eInt (by decide) rfl (by simp) fun _ _ => rfl)) rfl
      case el =>
        rw [List.length_map] at hi
        have e : (rows.map R4.dt).getD i .none = (rows.getD i ⟨0, 0, -1, 0⟩).dt := by
          simp [List.getD_eq_getElem?_getD, List.getElem?_eq_getElem hi]
        rw [← e]
        exact eLoc D₂₃ rfl rfl rfl rfl (by decide)
      case fin =>
      intro acc ds' g₂₄ g₂₅ own₂₅ h₂₅ hacc ⟨eo, eds⟩ s₂₄ s₂₅ D₂₅
      subst eo
      rw [List.length_map] at eds
      have hmet := met_at rows (pl' : Int)
      rw [← eds] at hmet
      have hdl' : ds'.length ≤ 1000 := by
        rw [eds, List.length_map]
        exact Nat.le_trans (List.length_filter_le _ _) (by rw [List.length_range]; exact hrl)
      generalize hmf : metF rows (pl' : Int) = mf at *
      refine kZ' acc g₂₅ _ ds' [R4.dt ⟨0, 0, -1, 0⟩] _ D₂₅ (D₂₅.lstAt (.head _)) (eList (aCons (eFz (eList (aCons eInt (aCons eInt (aCons (eNeg eInt) (aCons eInt aNil rfl) rfl) rfl) rfl) (by simp only [List.length_cons, List.length_nil]; decide))) aNil rfl) (by simp only [List.length_cons, List.length_nil]; decide)) (by rw [sizeLine_eq]; simp; (first | lia | omega)) fun MA g₂₆ h₂₆ D₂₆ hMA s₂₆ => Wp_storeL D₂₆ (.ref MA) F rfl <| let l_9 : Loc := _; fun h₂₇ (D₂₇ : St _ _ _ _ _ l_9 _) => ?_
      have hx₃ := ((hx₂.mono s₂₄).mono s₂₅).mono s₂₆
      have em : ((m / 2 : Nat) : Int) = (mf.m).fdiv ((2 : Nat) : Int) := by rw [hm, fdiv_nat]
      have epk : pickL ((pile ++ [x, 0]).map Dt.int) none (some ((m / 2 : Nat) : Int)) none = ((pile ++ [x, 0]).take (m / 2)).map Dt.int := by
        rw [pickL_cut, cut_to, List.map_take]
      have hml : (ds' ++ [R4.dt ⟨0, 0, -1, 0⟩]).length < 2 ^ 62 := by simp; (first | lia | omega)
      refine sAsgSwW (names := ["pile", "onward"]) (Wp_TupF D₂₇ (Wa_cons ((?sl : EvN _ _ _ _ _ _ (((pile ++ [x, 0]).take (m / 2)).map Dt.int)).wp D₂₇ fun NA g₂₈ h₂₈ D₂₈ hNA G₂₈ => Wa_cons ((?so : EvD _ _ _ _ _ _ (.int mf.s)).wp D₂₈ fun v₂₉ g₂₉ h₂₉ D₂₉ G₂₉ dv₂₉ => Wa_nil ⟨g₂₉, _, [.ref NA, .int mf.s], D₂₉, .cons (.ref _) (.cons dv₂₉ .nil), by simp only [List.length_cons, List.length_nil]; decide, fun v₃₀ g₃₀ h₃₀ D₃₀ s₃₀ dv₃₀ => ?_⟩) rfl) rfl)) rfl rfl
      case sl =>
        rw [← epk]
        refine nSlice (lR (eLoc (d := .ref PA) D₂₇ rfl rfl rfl rfl (by decide)) (D₂₇.lstAt (.tail _ (.tail _ (.head _))))) pNone (pInt ?_) pNone (by simp) (by rw [sizeLine_eq]; (first | lia | omega)) fun _ _ => ⟨_, rfl⟩
        rw [em]
        exact eDiv (eIdx (k := 3) (lD (eIdx (k := 0) (d := mf.dt) (lR (eLoc (d := .ref MA) D₂₇ rfl rfl rfl rfl (by decide)) (D₂₇.lstAt (.head _))) eInt (by decide) hmet hml fun _ _ => rfl)) eInt (by decide) rfl (by simp) fun _ _ => rfl) eInt (by decide) (PyProof.noPylong_small (by decide))
      case so =>
        exact eIdx (k := 2) (lD (eIdx (k := 0) (d := mf.dt) (lR (eLoc (d := .ref MA) D₂₈ rfl rfl rfl rfl (by decide)) (D₂₈.lstAt (.tail _ (.head _)))) eInt (by decide) hmet hml fun _ _ => rfl)) eInt (by decide) rfl (by simp) fun _ _ => rfl
      refine Wp_unpackTH D₃₀ rfl (((hx₃.mono G₂₈.sub).mono G₂₉.sub).mono s₃₀) dv₃₀ rfl fun vs g₃₁ h₃₁ D₃₁ s₃₁ kv => ?_
      obtain ⟨w₁, w₂, rfl, dw₁, dw₂⟩ := kv.two_inv
      refine Wp_inOrder (Wp_bindName (Wp_storeL D₃₁ dw₂ F rfl <| let l_10 : Loc := _; fun h₃₂ (D₃₂ : St _ _ _ _ _ l_10 _) => Wp_inOrder (Wp_bindName (Wp_storeL D₃₂ dw₁ F rfl <| let l_11 : Loc := _; fun h₃₃ (D₃₃ : St _ _ _ _ _ l_11 _) => Wp_inOrder0 ?_))))
      have hNA' : r.h.get? NA = none := D₂₇.none_of hNA
      have D₃₃ : St c r g₃₁ ([(NA, .lst (((pile ++ [x, 0]).take (m / 2)).map .int))] ++ ((MA, .lst (ds' ++ [R4.dt ⟨0, 0, -1, 0⟩])) :: (acc, .lst ds') :: (PA, .lst ((pile ++ [x, 0]).map .int)) :: ([(LG, .lst (log ++ [.str "none"])), (L + 1 + 1, .cell (some (.ref LG))), (L + 1, .cell (some (.int (pl' : Int))))] ++ (runMu ++ mu)))) L _ h₃₃ := D₃₃
      have D₃₄ := D₃₃.let_ (.take (.take (.take .all)))
      refine sNil (kZ _ g₃₁ _ (("pile", .ref NA) :: ("onward", .int mf.s) :: base) _ (D₃₄.weakL ⟨rfl, rfl, rfl, rfl, rfl, trivial⟩) rfl fun h₃₅ D₃₅ => ?_)
      refine sAssignC D₃₅ F (eLoc (d := .int mf.s) D₃₅ rfl rfl rfl rfl (by decide)) rfl rfl (.tail (.tail (.tail .head))) rfl fun g' h' D' s' => sNil (kQ _ _ ⟨n, by (first | lia | omega), _, g', NA, hrun, hNA', ?_⟩)
      have D' := (D'.weakL (loc' := (("pile", .ref NA) :: base)) ⟨rfl, rfl, rfl, rfl, trivial⟩)
      exact D'
    | @jump log pile pl' part hd' =>
      refine Wp_gen fun Q kQ => ?_
      have epl : pl' = pl := Int.ofNat_inj.mp epl
      subst epl
      have ed : d = 5 * part + 4 := Option.some.inj (hd.symm.trans hd')
      subst ed
      rw [show (5 * part + 4) % 5 = 4 by (first | lia | omega), show (5 * part + 4) / 5 = part by (first | lia | omega), if_pos rfl] at D₁₃
      refine sIf D₁₃ (b := ((4 : Nat) : Int) == 0) (bEq (eLoc D₁₃ rfl rfl rfl rfl (by decide)) eInt rfl) (fun e => by simp at e) fun _ g₁₄ h₁₄ D₁₄ s₁₄ => ?_
      refine sIf D₁₄ (b := ((4 : Nat) : Int) == 1) (bEq (eLoc D₁₄ rfl rfl rfl rfl (by decide)) eInt rfl) (fun e => by simp at e) fun _ g₁₅ h₁₅ D₁₅ s₁₅ => ?_
      refine sIf D₁₅ (b := decide (((4 : Nat) : Int) < 4)) (bLt (eLoc D₁₅ rfl rfl rfl rfl (by decide)) eInt rfl) (fun e => by simp at e) fun _ g₁₆ h₁₆ D₁₆ s₁₆ => ?_
      exact sAssignC D₁₆ F (eLoc D₁₆ rfl rfl rfl rfl (by decide)) rfl rfl (.tail (.tail (.tail .head))) rfl fun g' h' D' s' => sNil (kQ _ _ ⟨n, by (first | lia | omega), ⟨log, pile, part⟩, g', PA, hrun, hPA, D'.weakL ⟨rfl, rfl, rfl, rfl, trivial⟩⟩)
end
noncomputable def bases : List Int := [4, 2, 5400, 4, 3, 5898, 13, 19, 5976, 2, 6300, 79, 6189646]
noncomputable def cellF (ns : List Int) (k : Nat) : Int := (bases.getD k 0 + (pickL ns (some (k : Int)) (some 60) (some 13)).sum).fmod (10 ^ 9)
noncomputable def cellsF (ns : List Int) : List Int := (List.range 13).map (cellF ns)
noncomputable def zF (ns : List Int) : Nat := (cellF ns 12).toNat
noncomputable def lets : List (List Nat) := [[], [97], [65], [98], [66]]
noncomputable def letF (z k i : Nat) : List Nat := lets.getD (z / 5 ^ (3 * k + i) % 5) []
noncomputable def wordF (z k : Nat) : List Nat := letF z k 0 ++ letF z k 1 ++ letF z k 2
noncomputable def wsF (ns : List Int) : List (List Nat) := (List.range 4).map (wordF (zF ns))
noncomputable def tksF (ns : List Int) : List Int := (List.range 12).map fun k => (cellF ns k).fmod (10 ^ 6)
theorem cellF_nn (ns : List Int) (k : Nat) : 0 ≤ cellF ns k := Int.fmod_nonneg_of_pos _ (by decide)
theorem letF_len (z k i : Nat) : (letF z k i).length ≤ 1 := by
  have h : z / 5 ^ (3 * k + i) % 5 < 5 := Nat.mod_lt _ (by decide)
  unfold letF
  generalize z / 5 ^ (3 * k + i) % 5 = j at *
  rcases (show j = 0 ∨ j = 1 ∨ j = 2 ∨ j = 3 ∨ j = 4 by (first | lia | omega)) with rfl | rfl | rfl | rfl | rfl <;> decide
theorem join3 (a b c : List Nat) : Txt.join Str.empty [S a, S b, S c] = S (a ++ b ++ c) := by
  unfold Txt.join Builtin.Str.glued
  simp [Str.empty]
noncomputable def trmsS : Nat → List Int → List Tm × List Int
  | 0, tk => ([], tk)
  | i + 1, tk => if (trmsS i tk).2 = [] then trmsS i tk else ((trmsS i tk).1 ++ [(termF 13 (trmsS i tk).2).1], (termF 13 (trmsS i tk).2).2)
noncomputable def trmsF (ns : List Int) : List Tm := (trmsS 12 (tksF ns)).1
theorem trmsS_len (tk : List Int) : ∀ i, (trmsS i tk).1.length ≤ i ∧ (trmsS i tk).2.length ≤ tk.length
  | 0 => by simp [trmsS]
  | i + 1 => by
    have ih := trmsS_len tk i
    have := termF_len 13 (trmsS i tk).2
    unfold trmsS
    split
    · (first | lia | omega)
    · simp only [List.length_append, List.length_cons, List.length_nil]; (first | lia | omega)
noncomputable abbrev lawB (L TK l : Addr) (cs : List Dt) (told : Option Dt) : Led := [(L + 1 + 1 + 1 + 1, .cell told), (L + 1 + 1 + 1, .cell (some (.ref TK))), (L + 1 + 1, .cell (some (.lst cs))), (L + 1, .cell (some (.ref l)))] ++ runMu
noncomputable def pageS (ts : List Tm) : Nat → LN
  | 0 => ⟨[], [], []⟩
  | i + 1 =>
    let p := pageS ts i
    let q := layN (ts.getD i (.leaf 0 0)) (-1) i p.ds.length p.gs.length
    ⟨p.ds ++ q.ds, p.os ++ q.os, p.gs ++ q.gs⟩
noncomputable def dueS (ws : List (List Nat)) (ts : List Tm) : Nat → List (Option Int) × List Dt
  | 0 => ([], [])
  | i + 1 => if none ∈ (dueS ws ts i).1 then dueS ws ts i else
    ((dueS ws ts i).1 ++ [(worthF ws (ts.getD i (.leaf 0 0))).1], (dueS ws ts i).2 ++ (worthF ws (ts.getD i (.leaf 0 0))).2)
noncomputable def szS (ts : List Tm) (i : Nat) : Nat := ((ts.take i).map Tm.size).sum
theorem szS_succ {ts : List Tm} {i : Nat} (hi : i < ts.length) : szS ts (i + 1) = szS ts i + (ts.getD i (.leaf 0 0)).size := by
  unfold szS
  rw [List.take_add_one, List.getD_eq_getElem?_getD, List.getElem?_eq_getElem hi, List.map_append, List.sum_append]
  congr 1
theorem szS_le (ts : List Tm) : ∀ i j, i ≤ j → szS ts i ≤ szS ts j := by
  intro i j h
  unfold szS
  have e : ts.take j = ts.take i ++ (ts.take j).drop i := by
    have := (List.take_append_drop i (ts.take j)).symm
    rwa [List.take_take, Nat.min_eq_left h] at this
  rw [e, List.map_append, List.sum_append]; (first | lia | omega)
theorem pageS_len {ts : List Tm} : ∀ {i : Nat}, i ≤ ts.length → (pageS ts i).ds.length = szS ts i ∧ (pageS ts i).os.length = szS ts i ∧ (pageS ts i).gs.length ≤ szS ts i
  | 0, _ => by simp [pageS, szS]
  | i + 1, h => by
    have ih := pageS_len (ts := ts) (i := i) (by (first | lia | omega))
    have e := szS_succ (ts := ts) (i := i) (by (first | lia | omega))
    have q := layN_len (ts.getD i (.leaf 0 0)) (-1) i (pageS ts i).ds.length (pageS ts i).gs.length
    simp only [pageS, List.length_append]
    (first | lia | omega)
theorem dueS_len {ws : List (List Nat)} {ts : List Tm} : ∀ {i : Nat}, i ≤ ts.length → (dueS ws ts i).1.length ≤ i ∧ (dueS ws ts i).2.length ≤ 4 * szS ts i
  | 0, _ => by simp [dueS, szS]
  | i + 1, h => by
    have ih := dueS_len (ws := ws) (ts := ts) (i := i) (by (first | lia | omega))
    have e := szS_succ (ts := ts) (i := i) (by (first | lia | omega))
    have q := worth_len ws (ts.getD i (.leaf 0 0))
    unfold dueS
    split
    · (first | lia | omega)
    · simp only [List.length_append, List.length_cons, List.length_nil]; (first | lia | omega)
theorem strOk_of (s : String) : PyData.strOk (Str.ofString s) = true := by
  unfold PyData.strOk
  rw [Str.ofString_eq_toList]
  simp only [List.all_toArray, List.all_map, List.all_eq_true]
  intro ch _
  have h : (Char.toNat ch).isValidChar := ch.valid
  show decide (ch.toNat < 0x110000) = true
  rcases h with h | h
  · exact decide_eq_true (by (first | lia | omega))
  · exact decide_eq_true (by (first | lia | omega))
theorem Doks.app {n : Nat} {ds es : List Dt} (p : Doks n ds) (q : Doks n es) : Doks n (ds ++ es) := .of fun d hd => by
  rcases List.mem_append.mp hd with h | h
  · exact p.mem d h
  · exact q.mem d h
theorem worth_dok (ws : List (List Nat)) : ∀ t : Tm, Doks 1 (worthF ws t).2
  | .leaf k x => by
    unfold worthF
    split
    · exact .cons .int (.cons (.tup (.cons .int (.cons .int .nil))) (.cons (.str (strOk_of _)) (.cons (.str (strOk_of _)) .nil)))
    · exact .cons (.str (strOk_of _)) .nil
  | .node k a b => by
    have ha := worth_dok ws a
    have hb := worth_dok ws b
    unfold worthF worthN
    split
    · split
      · exact ha
      · exact ha.app hb
    · split
      · exact ha
      · split
        · exact ha.app hb
        · split
          · exact (ha.app hb).app (.cons (.str (strOk_of _)) .nil)
          · exact (ha.app hb).app (.cons (.tup (.cons .int (.cons .int .nil))) (.cons (.str (strOk_of _)) (.cons (.str (strOk_of _)) .nil)))
theorem dueS_dok (ws : List (List Nat)) (ts : List Tm) : ∀ i, Doks 1 (dueS ws ts i).2
  | 0 => .nil
  | i + 1 => by
    unfold dueS
    split
    · exact dueS_dok ws ts i
    · exact (dueS_dok ws ts i).app (worth_dok ws _)
noncomputable abbrev R4.li (r : R4) : List Int := [r.p, r.n, r.s, r.m]
noncomputable abbrev cst (ns : List Nat) : List Int := ns.map fun (n : Nat) => (n : Int)
theorem flat4_len : ∀ rws : List R4, ((rws.map R4.li).flatten).length = 4 * rws.length
  | [] => rfl
  | r :: rws => by
    have := flat4_len rws
    simp only [List.map_cons, List.flatten_cons, List.length_append, List.length_cons, List.length_nil] at *
    (first | lia | omega)
theorem flat4_at : ∀ (rws : List R4) (i : Nat), i < rws.length → (((rws.map R4.li).flatten).drop (4 * i)).take 4 = (rws.getD i ⟨0, 0, -1, 0⟩).li
  | r :: rws, 0, _ => rfl
  | r :: rws, i + 1, h => by
    have := flat4_at rws i (by simpa using h)
    rw [show 4 * (i + 1) = 4 * i + 4 by (first | lia | omega)]
    exact this
structure LawFin (ws : List (List Nat)) (ts : List Tm) (deeds rowsN : List Nat) : Prop where
  ds : (pageS ts ts.length).ds = cst deeds
  rs : ((rowsF (pageS ts ts.length).os (pageS ts ts.length).gs).map R4.li).flatten = cst rowsN
  low : ∀ n ∈ deeds.length :: (deeds ++ rowsN), n < 2 ^ 18
  hog : ∀ o ∈ (pageS ts ts.length).os, o < (pageS ts ts.length).gs.length
  rds : Rds (octF (deeds.length :: (deeds ++ rowsN))) (deeds.length :: (deeds ++ rowsN))
  run : ∃ N ce, Runs ws deeds (rowsF (pageS ts ts.length).os (pageS ts ts.length).gs) N ⟨[], [], 0⟩ ce ∧ ce.log = (dueS ws ts ts.length).2 ∧ ce.pile.length ≤ 5000 ∧
    (if 0 < ce.place then Dt.lst (ce.pile.map .int) else .none) = (if none ∈ (dueS ws ts ts.length).1 then .none else .lst ((dueS ws ts ts.length).1.map odt))
structure LawOk (ns : List Int) : Prop where
  W : Wd2 (wsF ns)
  tok : ∀ t ∈ trmsF ns, TmOk t ∧ t.deep ≤ 13
  tsz : szS (trmsF ns) (trmsF ns).length ≤ 60
  fin : ∃ deeds rowsN, LawFin (wsF ns) (trmsF ns) deeds rowsN
theorem Pre.perm {c : GC} {g : FB} {own own' : Led} {h : Heap} (P : Pre c g own h) (p : own'.Perm own) : Pre c g own' h := ⟨P.cb, P.gh, fun q hq => P.ow q (p.mem_iff.mp hq), (p.map _).nodup_iff.mpr P.nd⟩
theorem gled_keys : ∀ {as : List Addr} {gs : List (Int × Int)}, as.length = gs.length → (gled as gs).map (·.1) = as
  | [], [], _ => rfl
  | a :: as, p :: gs, h => by
    have := gled_keys (as := as) (gs := gs) (by simpa using h)
    show a :: (gled as gs).map (·.1) = _
    rw [this]
  | [], _ :: _, h => by simp at h
  | _ :: _, [], h => by simp at h
theorem gled_fresh {c : GC} {r : Rec} {g : FB} {pre rest : Led} {L : Addr} {loc : Loc} {h : Heap} {as : List Addr} {gs : List (Int × Int)} (D : St c r g (pre ++ (gled as gs ++ rest)) L loc h) (hl : as.length = gs.length) (hk : ∀ k ∈ r.ks, k ∈ rest.map (·.1)) :
    ∀ a ∈ as, r.h.get? a = none := fun a ha => by
  rw [← gled_keys hl] at ha
  obtain ⟨p, hp, rfl⟩ := List.mem_map.mp ha
  rcases D.os p (List.mem_append_right _ (List.mem_append_left _ hp)) with z | z
  · have nd := D.nd
    rw [List.map_append, List.map_append] at nd
    exact absurd rfl ((List.nodup_append.mp (List.nodup_append.mp nd).2.1).2.2 _ ha _ (hk _ z))
  · exact z
section
variable {c : GC}
theorem law_spec {A : Around} {g : FB} {h : Heap} {l : Addr} {ns : List Int} (R : Rm A 40 420) (P : Pre c g runMu h) (KS : Stk A []) (hv : SomeL g l (ns.map .int)) (hns : ns.length ≤ 1000) (H : LawOk ns) :
    Cd c A (.call (.ref 162) ⟨[.ref l], []⟩) (fun r h' => ∃ g', r = .ok (.ret (.bool true)) ∧ Ret ⟨g, h, runMu.map (·.1)⟩ g' runMu h') h := by
  refine enterC (binds := [("script", .ref l)]) (bd := []) (dd := 39) (uu := 417) (fun L => [(L + 1 + 1 + 1 + 1, .cell none), (L + 1 + 1 + 1, .cell none), (L + 1 + 1, .cell none), (L + 1, .cell (some (.ref l)))]) P rfl rfl R (fun s hs => .of_eq rfl) ?hkind ?hnd rfl rfl rfl ?hled ?hb fun L h₁ D F R' => ?_
  case hkind =>
    intro k y hy
    cases List.mem_singleton.mp hy
    exact .inr ⟨rfl, rfl⟩
  case hnd => decide
  case hled => exact fun L => .none rfl (.none rfl (.none rfl (.some (v := .ref l) rfl (.ref l) .nil)))
  case hb =>
    intro L y d e
    simp at e
  refine Wp_gen fun Q hQ => ?_
  have D : St c ⟨g, h, runMu.map (·.1)⟩ g ([(L + 1 + 1 + 1 + 1, .cell none), (L + 1 + 1 + 1, .cell none), (L + 1 + 1, .cell none), (L + 1, .cell (some (.ref l)))] ++ runMu) L [] h₁ := D
  refine sAssign (d := .lst (bases.map .int)) D F (eFz (eList (aCons eInt (aCons eInt (aCons eInt (aCons eInt (aCons eInt (aCons eInt (aCons eInt (aCons eInt (aCons eInt (aCons eInt (aCons eInt (aCons eInt (aCons eInt aNil rfl) rfl) rfl) rfl) rfl) rfl) rfl) rfl) rfl) rfl) rfl) rfl) rfl) (by simp only [bases, List.map_cons, List.map_nil, List.length_cons, List.length_nil]; decide))) rfl rfl fun g₂ h₂ D₂ s₂ => ?_
  refine sAssignW (Wp_compE D₂ (srcEnumL D₂ R'.hn (by (first | exact evGlob (St.bas (by assumption)) rfl rfl rfl rfl (by decide) | exact evBuilt (St.bas (by assumption)) rfl rfl (by decide) rfl rfl rfl rfl (by decide))) (eLoc (d := .lst (bases.map .int)) D₂ rfl rfl rfl rfl (by decide)) rfl) rfl (by decide) rfl (by decide) (fun _ => rfl) _ ⟨rfl, rfl⟩ (JP.size (by show 13 ≤ sizeLine; decide))
    (cturnT (f := fun i => .int (cellF ns i)) F R'.hn rfl rfl rfl fun i g₃ own₃ C h₃ hi D₃ hm s₃ => ?el1) ?fin1) rfl
  case el1 =>
    have hi : i < 13 := hi
    have e : (bases.map Dt.int).getD i .none = .int (bases.getD i 0) := getD_of (ints_at (by exact hi))
    rw [e] at D₃
    unfold cellF
    refine eMod (eAdd (eLoc D₃ rfl rfl rfl rfl (by decide)) (eSum R'.hn (by (first | exact evGlob (St.bas (by assumption)) rfl rfl rfl rfl (by decide) | exact evBuilt (St.bas (by assumption)) rfl rfl (by decide) rfl rfl rfl rfl (by decide))) (lN D₃.gr ?sl) rfl)) (ePow eInt eInt (by decide) (by decide)) (by decide)
    rw [← pickL_map]
    exact nSliceF (eCell (d := .ref l) (D₃.cellAt (hm _ (.tail _ (.tail _ (.tail _ (.head _)))))) rfl rfl rfl (by decide)) (hv.mono (s₂.trans s₃)) (pInt (eLoc D₃ rfl rfl rfl rfl (by decide))) (pInt eInt) (pInt eInt) (by simp) (by rw [List.length_map, sizeLine_eq]; (first | lia | omega)) fun _ _ => ⟨_, rfl⟩
  case fin1 =>
  intro CA ds₃ g₃ g₄ own₄ h₄ hCA ⟨eo, eds⟩ s₃ s₄ D₄
  subst eo
  have eds : ds₃ = (cellsF ns).map .int := by rw [eds, JP.all]; unfold cellsF; rw [List.map_map]; rfl
  subst eds
  refine D₄.freezeK (.take .all) hCA fun g₅ D₅ s₅ dC => ?_
  refine Wp_storeC (d := .lst ((cellsF ns).map .int)) D₅ dC F rfl rfl (.tail (.tail .head)) fun h₆ D₆ => ?_
  have D₆ : St c ⟨g, h, runMu.map (·.1)⟩ _ ([(L + 1 + 1 + 1 + 1, .cell none), (L + 1 + 1 + 1, .cell none), (L + 1 + 1, .cell (some (.lst ((cellsF ns).map .int)))), (L + 1, .cell (some (.ref l)))] ++ runMu) L [("bases", .lst (bases.map .int))] h₆ := D₆
  have hz : ((cellsF ns).map Dt.int)[12]? = some (.int (zF ns : Nat)) := by
    have e : ((zF ns : Nat) : Int) = cellF ns 12 := Int.toNat_of_nonneg (cellF_nn ns 12)
    rw [e]; rfl
  have hcl : ((cellsF ns).map Dt.int).length = 13 := rfl
  refine sAssignCompG D₆ F (srcRange (n := 4) D₆ R'.hn (eRange1 (j := 4) (by (first | exact evGlob (St.bas (by assumption)) rfl rfl rfl rfl (by decide) | exact evBuilt (St.bas (by assumption)) rfl rfl (by decide) rfl rfl rfl rfl (by decide))) (aCons eInt aNil rfl) rfl ⟨_, _, rfl⟩) (by decide) (by decide) fun _ _ => rfl) rfl rfl rfl (intosK (y := "k") (fun _ => rfl) (fun _ => rfl)) rfl (by decide) (fun _ => rfl)
    (fun K i _ own' ds => (∃ d, own' = (K, .cell d) :: ([(L + 1 + 1 + 1 + 1, .cell none), (L + 1 + 1 + 1, .cell none), (L + 1 + 1, .cell (some (.lst ((cellsF ns).map .int)))), (L + 1, .cell (some (.ref l)))] ++ runMu)) ∧ ds = (List.range i).map fun k => .str (S (wordF (zF ns) k)))
    (fun K => ⟨⟨none, rfl⟩, rfl⟩) (fun K i g own ds hi ⟨_, e⟩ => by rw [e, List.length_map, List.length_range, sizeLine_eq]; (first | lia | omega)) ?turn2 ?fin2
  case turn2 =>
    rintro acc C K m i g₇ g₈ own₁ ds h₈ v pre Zt Zf hna hi ⟨⟨d₀, rfl⟩, rfl⟩ kn s₇ s₈ D₈ dv kt kf
    refine Wp_asgName (Wp_storeC (d := .int (i : Int)) D₈ (by simpa using dv) (F.comp rfl C) rfl rfl (Up.app (.tail (.tail .head))) fun h₉ D₉ => Wp_tests0 ?_)
    rw [if_pos rfl]
    refine Wp_join (sep := Str.empty) (ys := [S (letF (zF ns) i 0), S (letF (zF ns) i 1), S (letF (zF ns) i 2)]) D₉ eStr (fun g₁₀ h₁₀ D₁₀ s₁₀ Z kZ => ?_) rfl rfl rfl
    refine Wp_compE D₁₀ (srcRange (n := 3) D₁₀ R'.hn (eRange1 (j := 3) (by (first | exact evGlob (St.bas (by assumption)) rfl rfl rfl rfl (by decide) | exact evBuilt (St.bas (by assumption)) rfl rfl (by decide) rfl rfl rfl rfl (by decide))) (aCons eInt aNil rfl) rfl ⟨_, _, rfl⟩) (by decide) (by decide) fun _ _ => rfl) rfl (by decide) rfl (by decide) (fun _ => rfl) _ ⟨rfl, rfl⟩ (JP.size (by show 3 ≤ sizeLine; decide))
      (cturnN (f := fun j => .str (S (letF (zF ns) i j))) (F.comp rfl C) rfl rfl fun j g₁₁ own₁₁ C' h₁₁ hj D₁₁ hm s₁₁ => ?el2) ?fin3
    case el2 =>
      have hj : j < 3 := hj
      have hi : i < 4 := hi
      have D₁₁ : St c ⟨g, h, runMu.map (·.1)⟩ g₁₁ own₁₁ C' [("i", .int (j : Int))] h₁₁ := by simpa using D₁₁
      have hpow : (5 : Int) ^ ((3 : Int) * (i : Int) + (j : Int)).toNat = ((5 ^ (3 * i + j) : Nat) : Int) := by
        rw [show ((3 : Int) * (i : Int) + (j : Int)).toNat = 3 * i + j by (first | lia | omega)]; norm_cast
      have hpos : 0 < 5 ^ (3 * i + j) := Nat.pow_pos (by decide)
      have hple : 5 ^ (3 * i + j) ≤ 5 ^ 11 := Nat.pow_le_pow_right (by decide) (by (first | lia | omega))
      have hq : zF ns / 5 ^ (3 * i + j) % 5 < 5 := Nat.mod_lt _ (by decide)
      have ek : (((zF ns / 5 ^ (3 * i + j) % 5 : Nat)) : Int) = (((zF ns : Nat) : Int).fdiv ((5 : Int) ^ ((3 : Int) * (i : Int) + (j : Int)).toNat)).fmod ((5 : Nat) : Int) := by
        rw [hpow, fdiv_nat, fmod_nat]
      refine eIdx (k := ((zF ns / 5 ^ (3 * i + j) % 5 : Nat) : Int)) (lN D₁₁.gr (eList (aCons eStr (aCons eStr (aCons eStr (aCons eStr (aCons eStr aNil rfl) rfl) rfl) rfl) rfl) (by simp only [List.length_cons, List.length_nil]; decide))) ?ix (by (first | lia | omega)) ?hx (by simp) fun _ _ => rfl
      case ix =>
        rw [ek]
        refine eMod (eDiv (eIdx (k := 12) (lD (eCell (D₁₁.cellAt (hm _ (List.mem_append_right _ (.tail _ (.tail _ (.tail _ (.tail _ (.tail _ (.head _)))))))) ) rfl rfl rfl (by decide))) eInt (by decide) hz (by rw [hcl]; decide) fun _ _ => rfl) (ePow eInt (eAdd (eMul eInt (eCell (D₁₁.cellAt (d := .int (i : Int)) (hm _ (List.mem_append_right _ (.tail _ (.tail _ (.head _)))))) rfl rfl rfl (by decide)) ?mf) (eLoc D₁₁ rfl rfl rfl rfl (by decide))) (by (first | lia | omega)) ?pw) ?nz ?np) eInt (by decide)
        case mf => mul_fits
        case pw => rw [show Builtin.Int.intBits 5 = 3 by decide]; (first | lia | omega)
        case nz => rw [hpow]; (first | lia | omega)
        case np => rw [hpow]; exact PyProof.noPylong_small (by rw [Int.natAbs_natCast]; exact Nat.lt_of_le_of_lt hple (by decide))
      case hx =>
        rw [Int.toNat_natCast]
        unfold letF
        generalize zF ns / 5 ^ (3 * i + j) % 5 = q at *
        rcases (show q = 0 ∨ q = 1 ∨ q = 2 ∨ q = 3 ∨ q = 4 by (first | lia | omega)) with rfl | rfl | rfl | rfl | rfl <;> rfl
    case fin3 =>
      intro acc' ds' g₁₁ g₁₂ own₁₂ h₁₂ hacc ⟨eo, eds⟩ s₁₁ s₁₂ D₁₂
      subst eo eds
      have hl0 := letF_len (zF ns) i 0
      have hl1 := letF_len (zF ns) i 1
      have hl2 := letF_len (zF ns) i 2
      refine kZ acc' g₁₂ _ _ D₁₂ (D₁₂.lstAt (ds := [.str (S (letF (zF ns) i 0)), .str (S (letF (zF ns) i 1)), .str (S (letF (zF ns) i 2))]) (.head _)) ?_ fun w dw => kt g₁₂ _ (.str (S (wordF (zF ns) i))) _ w _ ?_ ⟨⟨some (.int (i : Int)), rfl⟩, ?_⟩ ((s₁₀.trans s₁₁).trans s₁₂) D₁₂.tail
      · simp only [List.map_cons, List.map_nil, S_len, List.sum_cons, List.sum_nil, List.length_cons, List.length_nil]
        have : Str.empty.length = 0 := rfl
        (first | lia | omega)
      · rw [join3] at dw; exact dw
      · rw [List.range_succ, List.map_append]; rfl
  case fin2 =>
  intro WA K ds₇ g₇ g₈ own₈ h₈ hWA ⟨⟨dK, eo⟩, eds⟩ s₇ s₈ D₈
  subst eo
  have eds : ds₇ = wdts (wsF ns) := by rw [eds]; rfl
  subst eds
  obtain ⟨g₉, D₉, s₉⟩ := D₈.freezeL (x := "words") (.take .all) hWA rfl
  have D₉ := D₉.tail.weakL (loc' := [("words", .lst (wdts (wsF ns)))]) ⟨rfl, trivial⟩
  have etk : pickL ((cellsF ns).map Dt.int) none (some 12) none = ((List.range 12).map fun k => Dt.int (cellF ns k)) := by
    rw [pickL_cut]
    show cut _ none (some ((12 : Nat) : Int)) = _
    rw [cut_to]
    rfl
  refine sAssignW (Wp_compE D₉ (srcList (ds := (List.range 12).map fun k => Dt.int (cellF ns k)) D₉ R'.hn (by rw [← etk]; exact eFz (nSlice (lD (eCell (D₉.cellAt (.tail _ (.tail _ (.head _)))) rfl rfl rfl (by decide))) pNone (pInt eInt) pNone (by simp) (by rw [hcl]; decide) fun _ _ => ⟨_, rfl⟩)) fun _ _ => rfl) rfl (by decide) rfl (by decide) (fun _ => rfl) _ ⟨rfl, rfl⟩ (JP.size (by rw [List.length_map, List.length_range]; decide))
    (cturnN (f := fun i => .int ((cellF ns i).fmod (10 ^ 6))) F rfl rfl fun i g₁₀ own₁₀ C h₁₀ hi D₁₀ hm s₁₀ => ?el4) ?fin4) rfl
  case el4 =>
    rw [List.length_map, List.length_range] at hi
    have e : ((List.range 12).map fun k => Dt.int (cellF ns k)).getD i .none = .int (cellF ns i) := by
      rw [List.getD_eq_getElem?_getD, List.getElem?_map, List.getElem?_range hi]; rfl
    rw [e] at D₁₀
    exact eMod (eLoc D₁₀ rfl rfl rfl rfl (by decide)) (ePow eInt eInt (by decide) (by decide)) (by decide)
  case fin4 =>
  intro TK ds₁₀ g₁₀ g₁₁ own₁₁ h₁₁ hTK ⟨eo, eds⟩ s₁₀ s₁₁ D₁₁
  subst eo
  have eds : ds₁₀ = (tksF ns).map .int := by rw [eds, JP.all]; unfold tksF; rw [List.map_map, List.length_map, List.length_range]; rfl
  subst eds
  refine Wp_storeC D₁₁ (.ref TK) F rfl rfl (.tail (.tail .head)) fun h₁₂ D₁₂ => ?_
  have D₁₂ : St c ⟨g, h, runMu.map (·.1)⟩ g₁₁ ((TK, .lst ((tksF ns).map .int)) :: ([(L + 1 + 1 + 1 + 1, .cell none), (L + 1 + 1 + 1, .cell (some (.ref TK))), (L + 1 + 1, .cell (some (.lst ((cellsF ns).map .int)))), (L + 1, .cell (some (.ref l)))] ++ runMu)) L [("words", .lst (wdts (wsF ns)))] h₁₂ := D₁₂
  have htl : (tksF ns).length = 12 := rfl
  generalize htks : tksF ns = tks at *
  refine sAsgSwW (names := ["page", "log", "due"]) (Wp_TupF D₁₂ (Wa_cons (Wp_ListF D₁₂ (Wa_cons ((eList aNil (by decide)).wp D₁₂ fun DA g₁₃ h₁₃ D₁₃ hDA G₁₃ => Wa_cons ((eList aNil (by decide)).wp D₁₃ fun OA g₁₄ h₁₄ D₁₄ hOA G₁₄ => Wa_cons ((eList aNil (by decide)).wp D₁₄ fun GA g₁₅ h₁₅ D₁₅ hGA G₁₅ => Wa_nil ⟨g₁₅, _, [.ref DA, .ref OA, .ref GA], D₁₅, .cons (.ref _) (.cons (.ref _) (.cons (.ref _) .nil)), by simp only [List.length_cons, List.length_nil]; decide, fun vp g₁₆ h₁₆ D₁₆ s₁₆ dvp =>
    Wa_cons ((eList aNil (by decide)).wp D₁₆ fun LG g₁₇ h₁₇ D₁₇ hLG G₁₇ => Wa_cons ((eFz (eList aNil (by decide))).wp D₁₇ fun vd g₁₈ h₁₈ D₁₈ G₁₈ dvd => Wa_nil ⟨g₁₈, _, [.lst [.ref DA, .ref OA, .ref GA], .ref LG, .lst []], D₁₈, .cons (dvp.mono (G₁₇.sub.trans G₁₈.sub)) (.cons (.ref _) (.cons dvd .nil)), by simp only [List.length_cons, List.length_nil]; decide, fun v₁ g₁₉ h₁₉ D₁₉ s₁₉ dv₁ => ?_⟩) rfl) rfl⟩) rfl) rfl) rfl)) rfl)) rfl rfl
  refine Wp_unpackT D₁₉ R'.hn dv₁ rfl fun vs h₂₀ D₂₀ kv => ?_
  obtain ⟨w₁, w₂, w₃, rfl, dw₁, dw₂, dw₃⟩ := kv.three_inv
  refine Wp_inOrder (Wp_bindName (Wp_storeL D₂₀ dw₃ F rfl fun h₂₁ D₂₁ => Wp_inOrder (Wp_bindName (Wp_storeL D₂₁ dw₂ F rfl fun h₂₂ D₂₂ => Wp_inOrder (Wp_bindName (Wp_storeL D₂₂ dw₁ F rfl fun h₂₃ D₂₃ => Wp_inOrder0 ?_))))))
  have hDA' : h.get? DA = none := D₁₂.none_of hDA
  have hOA' : h.get? OA = none := D₁₃.none_of hOA
  have hGA' : h.get? GA = none := D₁₄.none_of hGA
  have hLG' : h.get? LG = none := D₁₆.none_of hLG
  let pgD : Dt := .lst [.ref DA, .ref OA, .ref GA]
  have D₂₃ : St c ⟨g, h, runMu.map (·.1)⟩ g₁₉ ([(LG, .lst []), (GA, .lst []), (OA, .lst []), (DA, .lst [])] ++ ((TK, .lst (tks.map .int)) :: ([(L + 1 + 1 + 1 + 1, .cell none), (L + 1 + 1 + 1, .cell (some (.ref TK))), (L + 1 + 1, .cell (some (.lst ((cellsF ns).map .int)))), (L + 1, .cell (some (.ref l)))] ++ runMu))) L [("page", pgD), ("log", .ref LG), ("due", .lst []), ("words", .lst (wdts (wsF ns)))] h₂₃ := D₂₃
  have D₂₄ := D₂₃.perm (own' := (TK, .lst ((trmsS 0 tks).2.map .int)) :: ([(LG, .lst []), (GA, .lst []), (OA, .lst []), (DA, .lst [])] ++ lawB L TK l ((cellsF ns).map .int) none)) (List.perm_middle (l₁ := [(LG, OC.lst []), (GA, .lst []), (OA, .lst []), (DA, .lst [])])).symm
  refine sFor ?_ (fun _ => rfl)
  refine Wp_Call (by (first | exact evGlob (St.bas (by assumption)) rfl rfl rfl rfl (by decide) | exact evBuilt (St.bas (by assumption)) rfl rfl (by decide) rfl rfl rfl rfl (by decide))) D₂₄.gr fun g₂₅ h₂₅ G₂₅ => ?_
  have D₂₅ := D₂₄.grow G₂₅
  refine Wp_callT rfl ⟨_, _, rfl⟩ (Wa_cons ?_ rfl)
  refine Wp_compE D₂₅ (srcRange (n := 12) D₂₅ R'.hn (eRange1 (j := 12) (by (first | exact evGlob (St.bas (by assumption)) rfl rfl rfl rfl (by decide) | exact evBuilt (St.bas (by assumption)) rfl rfl (by decide) rfl rfl rfl rfl (by decide))) (aCons eInt aNil rfl) rfl ⟨_, _, rfl⟩) (by decide) (by decide) fun _ _ => rfl) rfl (by decide) rfl (by decide) (fun _ => rfl)
    (fun i _ own' ds => own' = (TK, .lst ((trmsS i tks).2.map .int)) :: ([(LG, .lst []), (GA, .lst []), (OA, .lst []), (DA, .lst [])] ++ lawB L TK l ((cellsF ns).map .int) none) ∧ ds = (trmsS i tks).1.map Tm.dt) ⟨rfl, rfl⟩
    (fun i g own ds hi ⟨_, e⟩ => by rw [e, List.length_map, sizeLine_eq]; have := (trmsS_len tks i).1; (first | lia | omega)) ?turn5 ?fin5
  case turn5 =>
    rintro acc C K m i g₂₆ g₂₇ own₂₆ ds₂₆ h₂₆ v pre Zt Zf hna hi ⟨rfl, rfl⟩ kn s₂₆ s₂₇ D₂₆ dv kt kf
    have hlen := trmsS_len tks i
    rw [htl] at hlen
    have est : trmsS (i + 1) tks = if (trmsS i tks).2 = [] then trmsS i tks else ((trmsS i tks).1 ++ [(termF 13 (trmsS i tks).2).1], (termF 13 (trmsS i tks).2).2) := rfl
    generalize trmsS i tks = st at *
    obtain ⟨tm, tk⟩ := st
    refine Wp_asgL D₂₆ dv (F.comp rfl C) rfl fun h₂₇ D₂₇ => Wp_tests1 ?_
    refine (bNeL (b := !tk.isEmpty) (n := 0) (m := 0) (lR (eCell (D₂₇.cellAt (d := .ref TK) (List.mem_append_right _ (.tail _ (.tail _ (.tail _ (.tail _ (.tail _ (.tail _ (.tail _ (.tail _ (.head _)))))))))) ) rfl rfl rfl (by decide)) (D₂₇.lstAt (List.mem_append_right _ (.tail _ (.tail _ (.head _)))))) (lN D₂₇.gr (eList aNil (by decide))) .ints .nil (by decide) (by decide) (by have := R'.u; (first | lia | omega)) (by cases tk <;> simp) rfl).wp D₂₇ fun b g₂₈ h₂₈ D₂₈ G₂₈ eb => ?_
    subst eb
    cases tk with
    | nil =>
      rw [if_neg (by simp)]
      exact kf g₂₈ _ _ _ ⟨by rw [est, if_pos rfl], by rw [est, if_pos rfl]⟩ G₂₈.sub D₂₈
    | cons x xs =>
      rw [if_pos (by simp)]
      rw [if_neg (by simp)] at est
      refine' Wp_CallM (f := 114) (ks := [TK]) (Post := fun g' v own' => own' = [(TK, .lst ((termF 13 (x :: xs)).2.map .int))] ∧ Den g' v (termF 13 (x :: xs)).1.dt) D₂₈ ?da1 (c.X _ _ rfl) rfl
        (aCons (d := .ref TK) (eCell (D₂₈.cellAt (d := .ref TK) (List.mem_append_right _ (.tail _ (.tail _ (.tail _ (.tail _ (.tail _ (.tail _ (.tail _ (.tail _ (.head _)))))))))) ) rfl rfl rfl (by decide)) aNil rfl) ⟨_, _, rfl⟩ (Sel.app (.skip (.skip (.take .all)))) (by simp) ?spec ?kk
      case da1 => (first | exact evGlob (St.bas (by assumption)) rfl rfl rfl rfl (by decide) | exact evBuilt (St.bas (by assumption)) rfl rfl (by decide) rfl rfl rfl rfl (by decide))
      case spec =>
        intro vs g₁ h₁ P₁ dv sb
        obtain ⟨v', rfl, dv'⟩ := dv.one_inv
        exact term_spec 13 (by simp only [List.length_cons] at *; (first | lia | omega)) (by simp only [List.length_cons] at *; (first | lia | omega)) (R'.le (by (first | lia | omega)) (by (first | lia | omega))) P₁ dv'
      case kk =>
      intro w g₂₉ own₂₉ h₂₉ D₂₉ s₂₉ ⟨eo, dw⟩
      subst eo
      refine kt g₂₉ _ _ _ _ _ dw ⟨rfl, by rw [est, List.map_append]; rfl⟩ (G₂₈.sub.trans s₂₉) (D₂₉.perm ?_)
      rw [est]
      have := List.perm_middle (l₁ := pre ++ [(acc, OC.lst (tm.map Tm.dt)), (L, OC.fm m)]) (a := (TK, OC.lst ((termF 13 (x :: xs)).2.map .int))) (l₂ := [(LG, OC.lst []), (GA, .lst []), (OA, .lst []), (DA, .lst [])] ++ lawB L TK l ((cellsF ns).map .int) none)
      rw [List.append_assoc, List.append_assoc] at this
      exact this
  case fin5 =>
  intro TA ds₂₆ g₂₆ g₂₇ own₂₆ h₂₆ hTA ⟨eo, eds⟩ s₂₆ s₂₇ D₂₆
  subst eo eds
  refine D₂₆.freezeK (.take .all) hTA fun g₂₇' D₂₇ s₂₇' dT => ?_
  have D₂₇ := D₂₇.perm (own' := [(DA, .lst []), (OA, .lst []), (GA, .lst []), (LG, .lst [])] ++ ((TK, .lst ((trmsS 12 tks).2.map .int)) :: lawB L TK l ((cellsF ns).map .int) none)) (by
    refine (List.perm_middle (l₁ := [(DA, OC.lst []), (OA, .lst []), (GA, .lst []), (LG, .lst [])])).trans (.cons _ (List.Perm.append_right _ ?_))
    exact List.reverse_perm [(LG, OC.lst []), (GA, .lst []), (OA, .lst []), (DA, .lst [])])
  have hW := H.W
  have htok := H.tok
  have htsz := H.tsz
  obtain ⟨deeds, rowsN, HF⟩ := H.fin
  have htn : (trmsF ns).length ≤ 12 := (trmsS_len (tksF ns) 12).1
  have ets : (trmsS 12 tks).1 = trmsF ns := by rw [← htks]; rfl
  rw [ets] at dT
  generalize trmsF ns = ts at *
  generalize hws : wsF ns = ws at *
  generalize (trmsS 12 tks).2 = tk12 at *
  generalize hB : (TK, OC.lst (tk12.map .int)) :: lawB L TK l ((cellsF ns).map .int) none = B at *
  refine Wa_nil (Wp_enumL (elts := [.Name "depth" ⟨248, 8, 248, 13⟩, .Name "term" ⟨248, 15, 248, 19⟩]) (kk := 0) (tp := ⟨248, 8, 248, 19⟩) D₂₇ R'.hn dT fun it g₂₈ h₂₈ pre X g₀ I x₀ D₂₈ s₂₈ s₀ hn => ?_)
  rw [List.length_map] at I
  refine forJ I x₀ D₂₈ s₀ hn (fun i _ own loc => loc = ([("page", pgD), ("log", .ref LG), ("due", .lst ((dueS ws ts i).1.map odt)), ("words", .lst (wdts ws))] : Loc) ∧
    ∃ as, as.length = (pageS ts i).gs.length ∧ own = [(DA, .lst ((pageS ts i).ds.map .int)), (OA, .lst ((pageS ts i).os.map .int)), (GA, .lst (as.map .ref)), (LG, .lst (dueS ws ts i).2)] ++ (gled as (pageS ts i).gs ++ B)) ⟨rfl, [], rfl, rfl⟩ ?turn6 ?fin6
  case turn6 =>
    rintro i g₂₉ g₃₀ own loc h₂₉ v pre Qt hi ⟨rfl, as, hal, rfl⟩ s₂₉ s₃₀ D₂₉ dv kN _
    have hdi : (ts.map Tm.dt).getD i .none = (ts.getD i (.leaf 0 0)).dt := by
      rw [List.getD_eq_getElem?_getD, List.getElem?_map, List.getD_eq_getElem?_getD, List.getElem?_eq_getElem hi]; rfl
    rw [hdi] at dv
    have hmem : ts.getD i (.leaf 0 0) ∈ ts := by rw [List.getD_eq_getElem?_getD, List.getElem?_eq_getElem hi]; exact List.getElem_mem hi
    have htm := htok _ hmem
    have hpl := pageS_len (ts := ts) (i := i) (by (first | lia | omega))
    have hdl := dueS_len (ws := ws) (ts := ts) (i := i) (by (first | lia | omega))
    have hs1 := szS_succ hi
    have hs2 := szS_le ts (i + 1) ts.length (by (first | lia | omega))
    have ep : pageS ts (i + 1) = ⟨(pageS ts i).ds ++ (layN (ts.getD i (.leaf 0 0)) (-1) i (pageS ts i).ds.length (pageS ts i).gs.length).ds, (pageS ts i).os ++ (layN (ts.getD i (.leaf 0 0)) (-1) i (pageS ts i).ds.length (pageS ts i).gs.length).os, (pageS ts i).gs ++ (layN (ts.getD i (.leaf 0 0)) (-1) i (pageS ts i).ds.length (pageS ts i).gs.length).gs⟩ := rfl
    have ed : dueS ws ts (i + 1) = if none ∈ (dueS ws ts i).1 then dueS ws ts i else ((dueS ws ts i).1 ++ [(worthF ws (ts.getD i (.leaf 0 0))).1], (dueS ws ts i).2 ++ (worthF ws (ts.getD i (.leaf 0 0))).2) := rfl
    rw [hal.symm] at ep
    generalize ts.getD i (.leaf 0 0) = tm at *
    generalize pageS ts i = pg at *
    generalize dueS ws ts i = du at *
    obtain ⟨pds, pos, pgs⟩ := pg
    obtain ⟨du1, du2⟩ := du
    refine Wp_asgTup2 D₂₉ R'.hn dv F rfl rfl fun h₃₁ D₃₁ => ?_
    have hpl : pds.length = szS ts i ∧ pos.length = szS ts i ∧ pgs.length ≤ szS ts i := hpl
    have hdl : du1.length ≤ i ∧ du2.length ≤ 4 * szS ts i := hdl
    have hal : as.length = pgs.length := hal
    refine sExpr ?_ rfl rfl
    refine' Wp_CallM (f := 121) (ks := [DA, OA, GA]) (Post := fun g' v own' => v = .none ∧ ∃ as', as'.length = (layN tm (-1) i pds.length as.length).gs.length ∧ own' = [(DA, .lst ((pds ++ (layN tm (-1) i pds.length as.length).ds).map .int)), (OA, .lst ((pos ++ (layN tm (-1) i pds.length as.length).os).map .int)), (GA, .lst (as.map .ref ++ as'.map .ref))] ++ gled as' (layN tm (-1) i pds.length as.length).gs) D₃₁ ?da1 (c.X _ _ rfl) rfl
      (aCons (eLoc (d := tm.dt) D₃₁ rfl rfl rfl rfl (by decide)) (aCons (d := .int (-1)) (eNeg eInt) (aCons (d := .int (i : Int)) (eLoc D₃₁ rfl rfl rfl rfl (by decide)) (aCons (d := .lst [.ref DA, .ref OA, .ref GA]) (eLoc D₃₁ rfl rfl rfl rfl (by decide)) aNil rfl) rfl) rfl) rfl) ⟨_, _, rfl⟩ (Sel.app (.take (.take (.take .all)))) (by simp) ?spec ?kk
    case da1 => (first | exact evGlob (St.bas (by assumption)) rfl rfl rfl rfl (by decide) | exact evBuilt (St.bas (by assumption)) rfl rfl (by decide) rfl rfl rfl rfl (by decide))
    case spec =>
      intro vs g₁ h₁ P₁ dv sb
      obtain _ | ⟨p₁, ps⟩ := dv
      obtain ⟨v₂, v₃, v₄, rfl, p₂, p₃, p₄⟩ := ps.three_inv
      have z := lay_spec (gds := as.map Dt.ref) tm htm.1 (R'.le (by (first | lia | omega)) (by (first | lia | omega))) P₁ p₁ p₂ p₃ p₄ (by (first | lia | omega)) (by (first | lia | omega)) (by rw [List.length_map]; (first | lia | omega)) (by (first | lia | omega))
      rw [List.length_map] at z
      exact z
    case kk =>
    rintro v₃₂ g₃₂ own₃₂ h₃₂ D₃₂ s₃₂ ⟨rfl, as', hal', rfl⟩
    refine ⟨rfl, ?_⟩
    generalize layN tm (-1) i pds.length as.length = ln at *
    have D₃₃ := D₃₂.perm (own' := pre ++ ([(DA, .lst ((pds ++ ln.ds).map .int)), (OA, .lst ((pos ++ ln.os).map .int)), (GA, .lst ((as ++ as').map .ref)), (LG, .lst du2)] ++ (gled (as ++ as') (pgs ++ ln.gs) ++ B))) (by
      refine List.Perm.symm ?_
      rw [gled_app hal, List.map_append (f := Dt.ref)]
      refine List.Perm.trans (List.perm_append_comm_assoc _ pre _) (List.Perm.append_left pre ?_)
      rw [List.append_assoc]
      refine List.Perm.append_left [(DA, OC.lst ((pds ++ ln.ds).map .int)), (OA, .lst ((pos ++ ln.os).map .int)), (GA, .lst (as.map .ref ++ as'.map .ref))] ?_
      refine List.Perm.trans (List.perm_middle (l₁ := gled as' ln.gs)) (.cons _ ?_)
      show (gled as' ln.gs ++ (gled as pgs ++ B)).Perm ((gled as pgs ++ gled as' ln.gs) ++ B)
      rw [List.append_assoc]
      exact List.perm_append_comm_assoc _ _ _)
    have hdue : (Dt.none ∈ du1.map odt) ↔ none ∈ du1 := by
      rw [List.mem_map]
      constructor
      · rintro ⟨o, ho, e⟩
        cases o with
        | none => exact ho
        | some v => cases e
      · exact fun h => ⟨none, h, rfl⟩
    have hdok : Doks 1 (du1.map odt) := .of fun d hd => by
      obtain ⟨o, _, rfl⟩ := List.mem_map.mp hd
      cases o
      · exact .none
      · exact .int
    refine sAssignW (Wp_BinOp ((eLoc (d := .lst (du1.map odt)) D₃₃ rfl rfl rfl rfl (by decide)).wp D₃₃ fun v₃₄ g₃₄ h₃₄ D₃₄ G₃₄ dv₃₄ => Wp_IfExp ((bNotIn (b := decide (none ∉ du1)) (lD (eLoc (d := .lst (du1.map odt)) D₃₄ rfl rfl rfl rfl (by decide))) hdok (by decide) (by have := R'.u; (first | lia | omega)) (by rw [hdue]; simp) rfl).wp D₃₄ fun bb g₃₅ h₃₅ D₃₅ G₃₅ eb => ⟨fun q => ?_, fun q => ?_⟩))) rfl
    · subst eb
      have hnd : none ∉ du1 := of_decide_eq_true q
      rw [if_neg hnd] at ed
      refine Wp_ListF D₃₅ (Wa_cons ?_ rfl)
      refine' Wp_CallM (f := 157) (ks := [LG]) (Post := fun g' v own' => own' = [(LG, .lst (du2 ++ (worthF ws tm).2))] ∧ Den g' v (odt (worthF ws tm).1)) D₃₅ ?db1 (c.X _ _ rfl) rfl
        (aCons (eLoc (d := tm.dt) D₃₅ rfl rfl rfl rfl (by decide)) (aCons (d := .lst (wdts ws)) (eLoc D₃₅ rfl rfl rfl rfl (by decide)) (aCons (d := .ref LG) (eLoc D₃₅ rfl rfl rfl rfl (by decide)) aNil rfl) rfl) rfl) ⟨_, _, rfl⟩ (Sel.app (.skip (.skip (.skip (.take .all))))) (by simp) ?spec2 ?kk2
      case db1 => (first | exact evGlob (St.bas (by assumption)) rfl rfl rfl rfl (by decide) | exact evBuilt (St.bas (by assumption)) rfl rfl (by decide) rfl rfl rfl rfl (by decide))
      case spec2 =>
        intro vs g₁ h₁ P₁ dv sb
        obtain ⟨v₁, v₂, v₃, rfl, p₁, p₂, p₃⟩ := dv.three_inv
        exact worth_spec hW.toWds tm htm.1 (R'.le (by (first | lia | omega)) (by (first | lia | omega))) P₁ p₁ p₂ p₃ (by (first | lia | omega))
      case kk2 =>
      rintro v₃₆ g₃₆ own₃₆ h₃₆ D₃₆ s₃₆ ⟨rfl, dv₃₆⟩
      have D₃₇ := D₃₆.perm (own' := pre ++ ([(DA, .lst ((pds ++ ln.ds).map .int)), (OA, .lst ((pos ++ ln.os).map .int)), (GA, .lst ((as ++ as').map .ref)), (LG, .lst (du2 ++ (worthF ws tm).2))] ++ (gled (as ++ as') (pgs ++ ln.gs) ++ B))) (by
        have := List.perm_middle (l₁ := pre ++ [(DA, OC.lst ((pds ++ ln.ds).map .int)), (OA, .lst ((pos ++ ln.os).map .int)), (GA, .lst ((as ++ as').map .ref))]) (a := (LG, OC.lst (du2 ++ (worthF ws tm).2))) (l₂ := gled (as ++ as') (pgs ++ ln.gs) ++ B)
        rw [List.append_assoc, List.append_assoc] at this
        exact this)
      refine Wa_nil ⟨g₃₆, _, [odt (worthF ws tm).1], D₃₇, .one dv₃₆, by simp only [List.length_cons, List.length_nil]; decide, fun v₃₈ g₃₈ h₃₈ D₃₈ s₃₈ dv₃₈ => ?_⟩
      refine (ev_addD (c := c) (dv₃₄.mono ((G₃₅.sub.trans s₃₆).trans s₃₈)) dv₃₈ (by rw [List.length_map, sizeLine_eq]; simp only [List.length_cons, List.length_nil]; (first | lia | omega))).wp D₃₈ fun v₃₉ g₃₉ h₃₉ D₃₉ G₃₉ dv₃₉ => Wp_storeL D₃₉ dv₃₉ F rfl fun h₄₀ D₄₀ => sNil (kN g₃₉ _ _ _ ⟨rfl, as ++ as', ?_, ?_⟩ ?_ (D₄₀.weakL ⟨rfl, rfl, ?_, rfl, trivial⟩))
      · rw [ep]; simp only [List.length_append]; (first | lia | omega)
      · rw [ep, ed]
      · exact ((((s₃₂.trans G₃₄.sub).trans G₃₅.sub).trans s₃₆).trans s₃₈).trans G₃₉.sub
      · rw [ed, List.map_append]; rfl
    · subst eb
      have hnd : none ∈ du1 := Classical.not_not.mp (of_decide_eq_false q)
      rw [if_pos hnd] at ed
      refine (eFz (eList aNil (by decide))).wp D₃₅ fun v₃₈ g₃₈ h₃₈ D₃₈ G₃₈ dv₃₈ => ?_
      refine (ev_addD (c := c) (dv₃₄.mono (G₃₅.sub.trans G₃₈.sub)) dv₃₈ (by rw [List.length_map, sizeLine_eq]; simp only [List.length_nil]; (first | lia | omega))).wp D₃₈ fun v₃₉ g₃₉ h₃₉ D₃₉ G₃₉ dv₃₉ => Wp_storeL D₃₉ dv₃₉ F rfl fun h₄₀ D₄₀ => sNil (kN g₃₉ _ _ _ ⟨rfl, as ++ as', ?_, ?_⟩ ?_ (D₄₀.weakL ⟨rfl, rfl, ?_, rfl, trivial⟩))
      · rw [ep]; simp only [List.length_append]; (first | lia | omega)
      · rw [ep, ed]
      · exact (((s₃₂.trans G₃₄.sub).trans G₃₅.sub).trans G₃₈.sub).trans G₃₉.sub
      · rw [ed, List.append_nil]; rfl
  case fin6 =>
  rintro g₂₉ own loc h₂₉ ⟨rfl, as, hal, rfl⟩ s₂₉ D₂₉
  have hpl := pageS_len (ts := ts) (i := ts.length) (Nat.le_refl _)
  have hdl := dueS_len (ws := ws) (ts := ts) (i := ts.length) (Nat.le_refl _)
  have hdok := dueS_dok ws ts ts.length
  obtain ⟨F1, F2, F3, F4, F5, N, ce, F6, F7, F8, F9⟩ := HF
  generalize dueS ws ts ts.length = du at *
  generalize pageS ts ts.length = pg at *
  obtain ⟨pds, pos, pgs⟩ := pg
  obtain ⟨du1, du2⟩ := du
  have hpl : pds.length = szS ts ts.length ∧ pos.length = szS ts ts.length ∧ pgs.length ≤ szS ts ts.length := hpl
  have hdl : du1.length ≤ ts.length ∧ du2.length ≤ 4 * szS ts ts.length := hdl
  have hal : as.length = pgs.length := hal
  have F1 : pds = cst deeds := F1
  have F2 : ((rowsF pos pgs).map R4.li).flatten = cst rowsN := F2
  have F4 : ∀ o ∈ pos, o < pgs.length := F4
  have F6 : Runs ws deeds (rowsF pos pgs) N ⟨[], [], 0⟩ ce := F6
  have F7 : ce.log = du2 := F7
  have F9 : (if 0 < ce.place then Dt.lst (ce.pile.map .int) else .none) = (if none ∈ du1 then .none else .lst (du1.map odt)) := F9
  have hrl : (rowsF pos pgs).length ≤ pos.length := by
    have := rowsS_len pos pgs pos.length
    unfold rowsF
    rw [List.length_append]; exact this
  generalize hrw : rowsF pos pgs = rws at *
  have hasn : ∀ a ∈ as, h.get? a = none := gled_fresh D₂₉ hal fun k hk => by
    rw [← hB]
    exact .tail _ (List.mem_map.mpr ((List.mem_map.mp hk).imp fun p q => ⟨List.mem_append_right _ q.1, q.2⟩))
  refine D₂₉.freezeK (.take .all) hDA' fun g₃₀ D₃₀ s₃₀ dD => ?_
  refine D₃₀.freezeK (.take .all) hOA' fun g₃₁ D₃₁ s₃₁ dO => ?_
  obtain ⟨oG, ⟨vG, nG, rfl, kG⟩, D₃₂, s₃₂, eG⟩ := D₃₁.freeze (.take .all) hGA'
  refine D₃₂.freezeK (.take .all) hLG' fun g₃₃ D₃₃ s₃₃ dL => ?_
  have D₃₃ : St c ⟨g, h, runMu.map (·.1)⟩ _ (gled as pgs ++ B) L _ h₂₉ := D₃₃
  obtain ⟨g₃₄, D₃₄, s₃₄, kA⟩ := D₃₃.freezeG hasn hal
  have eGA := kG.refs
  subst eGA
  have dDA : Den g₃₄ (.ref DA) (.lst (pds.map .int)) := dD.mono (((s₃₁.trans s₃₂).trans s₃₃).trans s₃₄)
  have dOA : Den g₃₄ (.ref OA) (.lst (pos.map .int)) := dO.mono ((s₃₂.trans s₃₃).trans s₃₄)
  have dGA : Den g₃₄ (.ref GA) (.lst (pgs.map g2dt)) := .lst (s₃₄ _ _ (s₃₃ _ _ eG)) kA
  have dLG : Den g₃₄ (.ref LG) (.lst du2) := dL.mono s₃₄
  subst hB
  have D₃₄ : St c ⟨g, h, runMu.map (·.1)⟩ g₃₄ ((TK, .lst (tk12.map .int)) :: lawB L TK l ((cellsF ns).map .int) none) L [("page", pgD), ("log", .ref LG), ("due", .lst (du1.map odt)), ("words", .lst (wdts ws))] h₂₉ := D₃₄
  have hdn : deeds.length = pds.length := by rw [F1]; simp
  have hrn : rowsN.length = 4 * rws.length := by rw [← flat4_len rws, F2]; simp
  have hnum : Dt.int (pds.length : Int) :: pds.map Dt.int ++ ((rws.map R4.li).flatten).map Dt.int = nats (deeds.length :: (deeds ++ rowsN)) := by
    rw [F2, hdn, F1]
    simp [nats, cst]
    rfl
  have page : ∀ {g' : FB} {v' : Value} {a : Addr} {ds : List Dt}, Sub g₃₄ g' → Den g₃₄ (.ref a) (.lst ds) → Den g' v' (.ref a) → Den g' v' (.lst ds) := fun s d q => by cases q.ref_inv; exact d.mono s
  refine sAssignW (Wp_BinOp ((?P1 : EvD _ _ _ _ _ _ (.lst (Dt.int (pds.length : Int) :: pds.map Dt.int))).wp D₃₄ fun v₃₅ g₃₅ h₃₅ D₃₅ G₃₅ dv₃₅ => ?_)) rfl
  case P1 =>
    have ee : Dt.int (pds.length : Int) :: pds.map Dt.int = [Dt.int (((pds.map Dt.int).length : Nat) : Int)] ++ pds.map Dt.int := by rw [List.length_map]; rfl
    rw [ee]
    refine eFz (nAdd (lN D₃₄.gr (eList (aCons (eLen (by (first | exact evGlob (St.bas (by assumption)) rfl rfl rfl rfl (by decide) | exact evBuilt (St.bas (by assumption)) rfl rfl (by decide) rfl rfl rfl rfl (by decide))) (lD ((eIdx (k := 0) (d := .ref DA) (lD (eLoc D₃₄ rfl rfl rfl rfl (by decide))) eInt (by decide) rfl (by simp) fun _ _ => rfl).imp fun v g' h' G q => page G.sub dDA q)) rfl (by rw [List.length_map]; (first | lia | omega))) aNil rfl) (by simp only [List.length_cons, List.length_nil]; decide))) (lD ((eIdx (k := 0) (d := .ref DA) (lD (eLoc D₃₄ rfl rfl rfl rfl (by decide))) eInt (by decide) rfl (by simp) fun _ _ => rfl).imp fun v g' h' G q => page G.sub dDA q)) ?_)
    rw [List.length_map, sizeLine_eq]; simp only [List.length_cons, List.length_nil]; (first | lia | omega)
  refine Wp_flat (rows := rws.map R4.li) (item := fun i => (rws.map R4.dt).getD i .none) D₃₅ F R'.hn ?src ?hitem rfl (by decide) rfl (by decide) (fun _ => rfl) rfl rfl (by decide) (by decide) ?hsz fun NA g₃₆ h₃₆ hNA s₃₆ D₃₆ => ?_
  case src =>
    refine fun Q k => srcList (ds := rws.map R4.dt) D₃₅ R'.hn (eCallF (f := 128) D₃₅.bas (by (first | exact evGlob (St.bas (by assumption)) rfl rfl rfl rfl (by decide) | exact evBuilt (St.bas (by assumption)) rfl rfl (by decide) rfl rfl rfl rfl (by decide))) (c.X _ _ rfl) rfl (aCons (d := .lst (pos.map .int)) ((eIdx (k := 1) (d := .ref OA) (lD (eLoc D₃₅ rfl rfl rfl rfl (by decide))) eInt (by decide) rfl (by simp) fun _ _ => rfl).imp fun v g' h' G q => page (G₃₅.sub.trans G.sub) dOA q) (aCons (d := .lst (pgs.map g2dt)) ((eIdx (k := 2) (d := .ref GA) (lD (eLoc D₃₅ rfl rfl rfl rfl (by decide))) eInt (by decide) rfl (by simp) fun _ _ => rfl).imp fun v g' h' G q => page (G₃₅.sub.trans G.sub) dGA q) aNil rfl) rfl) ⟨_, _, rfl⟩ ?_) (fun _ _ => rfl) Q (by rw [List.length_map] at k ⊢; exact k)
    intro vs g' h' G' dv
    obtain ⟨v₁, v₂, rfl, d₁, d₂⟩ := dv.two_inv
    rw [← hrw]
    exact rows_spec (R'.le (by (first | lia | omega)) (by (first | lia | omega))) (D₃₅.bas.gr G').pre d₁ d₂ (by (first | lia | omega)) (by (first | lia | omega)) F4
  case hitem =>
    intro i hi
    rw [List.length_map] at hi
    rw [List.getD_eq_getElem?_getD, List.getD_eq_getElem?_getD, List.getElem?_map, List.getElem?_map, List.getElem?_eq_getElem hi]
    rfl
  case hsz => rw [flat4_len, sizeLine_eq]; (first | lia | omega)
  refine D₃₆.freezeK (.take .all) hNA fun g₃₇ D₃₇ s₃₇ dN => ?_
  refine (ev_addD (c := c) (dv₃₅.mono (s₃₆.trans s₃₇)) dN (by simp only [List.length_cons, List.length_map, flat4_len, sizeLine_eq]; (first | lia | omega))).wp D₃₇ fun v₃₈ g₃₈ h₃₈ D₃₈ G₃₈ dv₃₈ => Wp_storeL D₃₈ dv₃₈ F rfl fun h₃₉ D₃₉ => ?_
  rw [hnum] at D₃₉
  have s₃₉ : Sub g₃₄ g₃₈ := ((G₃₅.sub.trans s₃₆).trans s₃₇).trans G₃₈.sub
  have hnl : (deeds.length :: (deeds ++ rowsN)).length ≤ 1000 := by simp only [List.length_cons, List.length_append]; (first | lia | omega)
  generalize hnn : deeds.length :: (deeds ++ rowsN) = nums at *
  have htp := tapeF_len nums
  have hol : (octF nums).length ≤ 10000 := by unfold octF; rw [List.length_map, List.length_zipIdx]; (first | lia | omega)
  refine' sAssignW (Wp_CallX (f := 140) (ks := [L]) (mu := []) (Post := fun g' v own' => own' = [] ∧ Den g' v (.lst (nats nums))) (PostE := fun _ _ _ => False) D₃₉ ?da1 (c.X _ _ rfl) rfl
    (aCons (d := .lst (nats (octF nums))) (eCallF (f := 133) D₃₉.bas ?da2 (c.X _ _ rfl) rfl (aCons (d := .lst (nats nums)) (eLoc D₃₉ rfl rfl rfl rfl (by decide)) aNil rfl) ⟨_, _, rfl⟩ ?da3) aNil rfl) ⟨_, _, rfl⟩ .all (by simp) ?spec7 ?k7 (fun _ _ _ _ _ _ q => q.elim)) rfl
  case da1 => (first | exact evGlob (St.bas (by assumption)) rfl rfl rfl rfl (by decide) | exact evBuilt (St.bas (by assumption)) rfl rfl (by decide) rfl rfl rfl rfl (by decide))
  case da2 => (first | exact evGlob (St.bas (by assumption)) rfl rfl rfl rfl (by decide) | exact evBuilt (St.bas (by assumption)) rfl rfl (by decide) rfl rfl rfl rfl (by decide))
  case da3 =>
    intro vs g' h' G' dv
    obtain ⟨v₁, rfl, d₁⟩ := dv.one_inv
    exact oct_spec (R'.le (by (first | lia | omega)) (by (first | lia | omega))) (D₃₉.bas.gr G').pre d₁ hnl F3
  case spec7 =>
    intro m vs g₁ h₁ P₁ dv sb
    obtain ⟨v₁, rfl, d₁⟩ := dv.one_inv
    exact (read_spec (R'.le (by (first | lia | omega)) (by (first | lia | omega))) P₁ (KS.push rfl rfl) d₁ F5 hol).mono fun r' h' ⟨v, g', er, RR, dv⟩ => .inl ⟨v, g', [], er, RR, rfl, dv⟩
  case k7 =>
  rintro v₄₀ g₄₀ own₄₀ h₄₀ D₄₀ s₄₀ ⟨rfl, dv₄₀⟩
  have D₄₀ : St c ⟨g, h, runMu.map (·.1)⟩ g₄₀ ((TK, .lst (tk12.map .int)) :: lawB L TK l ((cellsF ns).map .int) none) L _ h₄₀ := D₄₀
  refine Wp_storeC (d := .lst (nats nums)) D₄₀ dv₄₀ F rfl rfl (.tail .head) fun h₄₁ D₄₁ => ?_
  have D₄₁ : St c ⟨g, h, runMu.map (·.1)⟩ g₄₀ ((TK, .lst (tk12.map .int)) :: lawB L TK l ((cellsF ns).map .int) (some (.lst (nats nums)))) L [("numbers", .lst (nats nums)), ("page", pgD), ("log", .ref LG), ("due", .lst (du1.map odt)), ("words", .lst (wdts ws))] h₄₁ := D₄₁
  have hsm : ∀ i, (nums.getD i 0 : Nat) < 2 ^ 18 := fun i => by
    by_cases hi : i < nums.length
    · rw [List.getD_eq_getElem?_getD, List.getElem?_eq_getElem hi]; exact F3 _ (List.getElem_mem hi)
    · rw [List.getD_eq_getElem?_getD, List.getElem?_eq_none_iff.mpr (by (first | lia | omega))]; decide
  have hstrs : ∀ {D₀ : List Dt}, D₀ = ((List.range (nats nums).length).filter fun _ => true).map (fun i => Dt.str (iText (nums.getD i 0 : Nat))) → D₀ = nums.map fun n : Nat => Dt.str (iText n) := by
    rintro D₀ rfl
    rw [JP.all, List.length_map]
    apply List.ext_getElem
    · simp
    · intro i h1 h2
      simp at h1 h2 ⊢
      rw [List.getElem?_eq_getElem h1]; rfl
  have hdks : Doks 0 (nums.map fun n : Nat => Dt.str (iText n)) := .of fun d hd => by
    obtain ⟨n, _, rfl⟩ := List.mem_map.mp hd
    exact .str (strOk_of _)
  refine sIfW (Wp_cmpB (r := ⟨g, h, runMu.map (·.1)⟩) (L := L) (loc := [("numbers", .lst (nats nums)), ("page", pgD), ("log", .ref LG), ("due", .lst (du1.map odt)), ("words", .lst (wdts ws))]) (b := false) (fun Z kZ => ?_) rfl)
  refine Wp_compE D₄₁ (srcList D₄₁ R'.hn (eCell (D₄₁.cellAt (d := .lst (nats nums)) (.tail _ (.head _))) rfl rfl rfl (by decide)) fun _ _ => rfl) rfl (by decide) rfl (by decide) (fun _ => rfl) _ ⟨rfl, rfl⟩ (JP.size (by rw [List.length_map, sizeLine_eq]; (first | lia | omega)))
    (cturnN (f := fun i => .str (iText (nums.getD i 0 : Nat))) F rfl rfl fun i g₄₂ own₄₂ C h₄₂ hi D₄₂ hm s₄₂ => ?el8) ?fin8
  case el8 =>
    rw [List.length_map] at hi
    have e : (nats nums).getD i .none = .int (nums.getD i 0 : Nat) := getD_of (nats_at hi)
    rw [e] at D₄₂
    exact eStrI (by (first | exact evGlob (St.bas (by assumption)) rfl rfl rfl rfl (by decide) | exact evBuilt (St.bas (by assumption)) rfl rfl (by decide) rfl rfl rfl rfl (by decide))) (eLoc D₄₂ rfl rfl rfl rfl (by decide)) (by have := hsm i; rw [Int.natAbs_natCast]; exact Nat.lt_trans (log2_lt (k := 18) (by (first | lia | omega)) (by decide)) (by decide)) rfl
  case fin8 =>
  intro SA ds₄₂ g₄₂ g₄₃ own₄₃ h₄₃ hSA ⟨eo, eds⟩ s₄₂ s₄₃ D₄₃
  subst eo
  have eds := hstrs eds
  subst eds
  refine Wp_compE D₄₃ (srcList D₄₃ R'.hn (eLoc (d := .lst (nats nums)) D₄₃ rfl rfl rfl rfl (by decide)) fun _ _ => rfl) rfl (by decide) rfl (by decide) (fun _ => rfl) _ ⟨rfl, rfl⟩ (JP.size (by rw [List.length_map, sizeLine_eq]; (first | lia | omega)))
    (cturnN (f := fun i => .str (iText (nums.getD i 0 : Nat))) F rfl rfl fun i g₄₄ own₄₄ C h₄₄ hi D₄₄ hm s₄₄ => ?el9) ?fin9
  case el9 =>
    rw [List.length_map] at hi
    have e : (nats nums).getD i .none = .int (nums.getD i 0 : Nat) := getD_of (nats_at hi)
    rw [e] at D₄₄
    exact eStrI (by (first | exact evGlob (St.bas (by assumption)) rfl rfl rfl rfl (by decide) | exact evBuilt (St.bas (by assumption)) rfl rfl (by decide) rfl rfl rfl rfl (by decide))) (eLoc D₄₄ rfl rfl rfl rfl (by decide)) (by have := hsm i; rw [Int.natAbs_natCast]; exact Nat.lt_trans (log2_lt (k := 18) (by (first | lia | omega)) (by decide)) (by decide)) rfl
  case fin9 =>
  intro SB ds₄₄ g₄₄ g₄₅ own₄₅ h₄₅ hSB ⟨eo, eds⟩ s₄₄ s₄₅ D₄₅
  subst eo
  have eds := hstrs eds
  subst eds
  refine kZ _ _ g₄₅ _ _ D₄₅ (cmp_neL (D₄₅.lstAt (.tail _ (.head _))) (D₄₅.lstAt (.head _)) hdks hdks (by decide) (by decide) (by have := R'.u; (first | lia | omega)) (by simp)) fun g₄₆ h₄₆ D₄₆' s₄₆ => ?_
  rw [if_neg (by simp)]
  have D₄₆ := D₄₆'.tail.tail
  have hn0 : (nats nums)[0]? = some (.int (deeds.length : Nat)) := by rw [← hnn]; rfl
  have hnl2 : (nats nums).length = 1 + deeds.length + 4 * rws.length := by rw [← hnn]; simp; (first | lia | omega)
  have hcut : pickL (nats nums) (some 1) (some ((1 : Int) + (deeds.length : Int))) none = nats deeds := by
    rw [pickL_cut, show ((1 : Int) + (deeds.length : Int)) = ((1 + deeds.length : Nat) : Int) by (first | lia | omega), show (1 : Int) = ((1 : Nat) : Int) from rfl, cut_mid, ← hnn]
    simp [nats]
  have hrow : ∀ i, i < rws.length → pickL (nats nums) (some ((1 + (deeds.length : Int)) + (i : Int) * 4)) (some ((1 + (deeds.length : Int)) + (i : Int) * 4 + 4)) none = (rws.getD i ⟨0, 0, -1, 0⟩).ds := by
    intro i hi
    rw [pickL_cut, show ((1 + (deeds.length : Int)) + (i : Int) * 4) = ((1 + deeds.length + 4 * i : Nat) : Int) by (first | lia | omega), show (((1 + deeds.length + 4 * i : Nat) : Int) + 4) = ((1 + deeds.length + 4 * i + 4 : Nat) : Int) by (first | lia | omega), cut_mid, ← hnn]
    have e := flat4_at rws i hi
    rw [F2] at e
    rw [show 1 + deeds.length + 4 * i + 4 - (1 + deeds.length + 4 * i) = 4 by (first | lia | omega), show 1 + deeds.length + 4 * i = (deeds.length + 4 * i) + 1 by (first | lia | omega)]
    show ((((deeds ++ rowsN).map fun n : Nat => Dt.int (n : Int)).drop (deeds.length + 4 * i)).take 4) = (rws.getD i ⟨0, 0, -1, 0⟩).ds
    have e' := congrArg (List.map Dt.int) e
    rw [List.map_take, List.map_drop, List.map_map] at e'
    rw [← List.map_drop, ← List.map_take, List.drop_append, List.drop_eq_nil_of_le (by (first | lia | omega)), List.nil_append, show deeds.length + 4 * i - deeds.length = 4 * i by (first | lia | omega), List.map_take, List.map_drop]
    exact e'
  refine sAssignComp D₄₆ F (srcRange (n := rws.length) D₄₆ R'.hn (eRange3 (a := 1 + (deeds.length : Int)) (b := ((nats nums).length : Nat)) (st := 4) (by (first | exact evGlob (St.bas (by assumption)) rfl rfl rfl rfl (by decide) | exact evBuilt (St.bas (by assumption)) rfl rfl (by decide) rfl rfl rfl rfl (by decide))) (aCons (eAdd eInt (eIdx (k := 0) (lD (eCell (D₄₆.cellAt (d := .lst (nats nums)) (.tail _ (.head _))) rfl rfl rfl (by decide))) eInt (by decide) hn0 (by rw [hnl2]; (first | lia | omega)) fun _ _ => rfl)) (aCons (eLen (by (first | exact evGlob (St.bas (by assumption)) rfl rfl rfl rfl (by decide) | exact evBuilt (St.bas (by assumption)) rfl rfl (by decide) rfl rfl rfl rfl (by decide))) (lD (eCell (D₄₆.cellAt (d := .lst (nats nums)) (.tail _ (.head _))) rfl rfl rfl (by decide))) rfl (by rw [hnl2]; (first | lia | omega))) (aCons eInt aNil rfl) rfl) rfl) (by decide) (PyProof.noPylong_small (by decide)) rfl ⟨_, _, rfl⟩)
    (small_ok (by (first | lia | omega)) (by (first | lia | omega)) (by (first | lia | omega)) (by rw [hnl2]; (first | lia | omega)) (by decide) (by decide)) ?rsz fun _ _ => rfl) rfl rfl rfl (by decide) rfl (by decide) (fun _ => rfl) _ ⟨rfl, rfl⟩ (JP.size (by rw [sizeLine_eq]; (first | lia | omega)))
    (cturnN (f := fun i => (rws.getD i ⟨0, 0, -1, 0⟩).dt) F rfl rfl fun i g₄₇ own₄₇ C h₄₇ hi D₄₇ hm s₄₇ => ?el10) ?fin10
  case rsz =>
    rw [hnl2]
    unfold Builtin.Range.rangeSize
    rw [if_pos (by decide)]
    split <;> (first | lia | omega)
  case el10 =>
    refine (?_ : EvD c _ _ _ _ _ (.lst (rws.getD i ⟨0, 0, -1, 0⟩).ds))
    rw [← hrow i hi]
    exact eFz (nSlice (lD (eCell (D₄₇.cellAt (d := .lst (nats nums)) (hm _ (.tail _ (.head _)))) rfl rfl rfl (by decide))) (pInt (eLoc D₄₇ rfl rfl rfl rfl (by decide))) (pInt (eAdd (eLoc D₄₇ rfl rfl rfl rfl (by decide)) eInt)) pNone (by simp) (by rw [hnl2, sizeLine_eq]; (first | lia | omega)) fun _ _ => ⟨_, rfl⟩)
  case fin10 =>
  intro RA ds₄₇ g₄₇ g₄₈ own₄₈ h₄₈ hRA ⟨eo, eds⟩ s₄₇ s₄₈ D₄₈
  subst eo
  have eds : ds₄₇ = rws.map R4.dt := by
    rw [eds, JP.all]
    apply List.ext_getElem
    · simp
    · intro i h1 h2
      simp at h1 h2 ⊢
      rw [List.getElem?_eq_getElem h1]; exact ⟨rfl, rfl, rfl, rfl⟩
  subst eds
  obtain ⟨g₄₉, D₄₉, s₄₉⟩ := D₄₈.freezeL (x := "rows") (.take .all) hRA rfl
  have D₄₉ : St c ⟨g, h, runMu.map (·.1)⟩ g₄₉ ((TK, .lst (tk12.map .int)) :: lawB L TK l ((cellsF ns).map .int) (some (.lst (nats nums)))) L [("rows", .lst (rws.map R4.dt)), ("log", .ref LG), ("due", .lst (du1.map odt)), ("words", .lst (wdts ws))] h₄₈ := D₄₉.weakL ⟨rfl, rfl, rfl, rfl, trivial⟩
  have s₄₉' : Sub g₃₄ g₄₉ := (((((((s₃₉.trans s₄₀).trans s₄₂).trans s₄₃).trans s₄₄).trans s₄₅).trans s₄₆).trans (s₄₇.trans s₄₈)).trans s₄₉
  have hdmem : none ∈ du1 ↔ Dt.none ∈ du1.map odt := by
    rw [List.mem_map]
    constructor
    · exact fun h => ⟨none, h, rfl⟩
    · rintro ⟨o, ho, e⟩
      cases o with
      | none => exact ho
      | some v => cases e
  have ddok : Doks 1 (du1.map odt) := .of fun d hd => by
    obtain ⟨o, _, rfl⟩ := List.mem_map.mp hd
    cases o
    · exact .none
    · exact .int
  have okk : Dok 3 (Dt.lst [Dt.lst du2, if none ∈ du1 then Dt.none else Dt.lst (du1.map odt)]) := by
    refine .lst (.cons (.lst hdok) (.cons ?_ .nil))
    split
    · exact .none
    · exact .lst ddok
  refine sReturn (Wp_cmpV (r := ⟨g, h, runMu.map (·.1)⟩) (L := L) (loc := [("rows", .lst (rws.map R4.dt)), ("log", .ref LG), ("due", .lst (du1.map odt)), ("words", .lst (wdts ws))]) (b := true) (fun Z kZ => ?_) rfl)
  refine' Wp_CallX (f := 145) (ks := runMu.map (·.1) ++ [L]) (mu := runMu) (Post := fun g' v own' => own' = runMu ∧ Den g' v (.lst [.lst ce.log, if 0 < ce.place then .lst (ce.pile.map .int) else .none])) (PostE := fun _ _ _ => False) D₄₉ ?dc1 (c.X _ _ rfl) rfl
    (aCons (d := .lst (nats deeds)) ?arg1 (aCons (d := .lst (rws.map R4.dt)) (eLoc D₄₉ rfl rfl rfl rfl (by decide)) (aCons (d := .lst (wdts ws)) (eLoc D₄₉ rfl rfl rfl rfl (by decide)) aNil rfl) rfl) rfl) ⟨_, _, rfl⟩ (.skip (.skip (.skip (.skip (.skip (.take (.take (.take .all)))))))) ?ksm ?spec11 ?k11 (fun _ _ _ _ _ _ q => q.elim)
  case dc1 => (first | exact evGlob (St.bas (by assumption)) rfl rfl rfl rfl (by decide) | exact evBuilt (St.bas (by assumption)) rfl rfl (by decide) rfl rfl rfl rfl (by decide))
  case arg1 =>
    rw [← hcut]
    exact eFz (nSlice (lD (eCell (D₄₉.cellAt (d := .lst (nats nums)) (.tail _ (.head _))) rfl rfl rfl (by decide))) (pInt eInt) (pInt (eAdd eInt (eIdx (k := 0) (lD (eCell (D₄₉.cellAt (d := .lst (nats nums)) (.tail _ (.head _))) rfl rfl rfl (by decide))) eInt (by decide) hn0 (by rw [hnl2]; (first | lia | omega)) fun _ _ => rfl))) pNone (by simp) (by rw [hnl2, sizeLine_eq]; (first | lia | omega)) fun _ _ => ⟨_, rfl⟩)
  case ksm =>
    intro k hk
    rcases List.mem_append.mp hk with q | q
    · exact .inr q
    · exact .inl (List.mem_singleton.mp q)
  case spec11 =>
    intro m vs g₁ h₁ P₁ dv sb
    obtain ⟨v₁, v₂, v₃, rfl, d₁, d₂, d₃⟩ := dv.three_inv
    have pm : ((L, OC.fm m) :: runMu).Perm (runMu ++ [(L, OC.fm m)]) := (List.perm_append_comm (l₁ := [(L, OC.fm m)]) (l₂ := runMu))
    exact (run_spec hW (mu := [(L, OC.fm m)]) (R'.le (by (first | lia | omega)) (by (first | lia | omega))) (P₁.perm pm.symm) (KS.push rfl rfl) d₁ d₂ d₃ F6 (by (first | lia | omega)) (by (first | lia | omega)) ⟨by rw [F7]; (first | lia | omega), F8⟩).mono fun r' h' ⟨v, g', er, RR, dv⟩ => .inl ⟨v, g', runMu, er, RR.perm pm, rfl, dv⟩
  case k11 =>
  rintro v₅₀ g₅₀ own₅₀ h₅₀ D₅₀ s₅₀ ⟨rfl, dv₅₀⟩
  refine (eFz (eList (aCons (d := .lst du2) ((eLoc (d := .ref LG) D₅₀ rfl rfl rfl rfl (by decide)).imp fun v g' h' G q => page ((s₄₉'.trans s₅₀).trans G.sub) dLG q) (aCons (d := if none ∈ du1 then .none else .lst (du1.map odt)) (eIf (b := decide (none ∈ du1)) (bIn (n := 1) (lD (eLoc (d := .lst (du1.map odt)) D₅₀ rfl rfl rfl rfl (by decide))) ?dkk (by decide) (by have := R'.u; (first | lia | omega)) ?bmem rfl) (fun q => ?ifY) (fun q => ?ifN)) aNil rfl) rfl) (by simp only [List.length_cons, List.length_nil]; decide))).wp D₅₀ fun w₅₁ g₅₁ h₅₁ D₅₁ G₅₁ dw₅₁ => ?_
  case dkk => exact ddok
  case bmem => exact decide_eq_true_iff.trans hdmem
  case ifY => rw [if_pos (of_decide_eq_true q)]; exact eNone
  case ifN => rw [if_neg (of_decide_eq_false q)]; exact eLoc D₅₀ rfl rfl rfl rfl (by decide)
  refine kZ _ _ g₅₁ _ _ D₅₁ (cmp_eqD (n := 3) (m := 3) (dv₅₀.mono G₅₁.sub) dw₅₁ ?_ ?_ (by decide) (by decide) (by have := R'.u; (first | lia | omega)) ?_) fun g₅₂ h₅₂ D₅₂ s₅₂ => ?_
  · rw [F7, F9]; exact okk
  · exact okk
  · simp only [true_iff]
    rw [F7, F9]
  · have D₅₃ := D₅₂.perm List.perm_append_comm
    exact hQ _ _ ⟨g₅₂, rfl, D₅₃.tail.tail.tail.tail.tail.toRet⟩
end
noncomputable def par (k : Nat) : List Nat → List Nat
  | [] => []
  | b :: bs => (b + 128 * (k % 2)) :: par (k + 1) bs
theorem par_eq : ∀ (l : List Nat) (k : Nat), (l.zipIdx k).map (fun p => p.1 + 128 * (p.2 % 2)) = par k l
  | [], k => rfl
  | b :: bs, k => by rw [List.zipIdx_cons, List.map_cons, par_eq bs (k + 1)]; rfl
theorem octF_par (ns : List Nat) : octF ns = par 0 (tapeF ns) := par_eq _ 0
theorem octR_1 {n : Nat} (h : n < 64) : octR n = [n % 64] := by
  have h1 : ¬ 4096 ≤ n := by (first | lia | omega)
  have h2 : ¬ 64 ≤ n := by (first | lia | omega)
  simp [octR, List.range_succ, List.filter_cons, h1, h2]
theorem octR_2 {n : Nat} (h0 : 64 ≤ n) (h : n < 4096) : octR n = [n / 64 % 64, n % 64] := by
  have h1 : ¬ 4096 ≤ n := by (first | lia | omega)
  simp [octR, List.range_succ, List.filter_cons, h1, h0]
theorem octR_3 {n : Nat} (h0 : 4096 ≤ n) : octR n = [n / 4096 % 64, n / 64 % 64, n % 64] := by
  have h1 : 64 ≤ n := by (first | lia | omega)
  simp [octR, List.range_succ, List.filter_cons, h1, h0]
theorem cont_go {v b b' : Nat} {bs : List Nat} (h : b / 64 % 2 = 1) : contF v b (b' :: bs) = contF (v * 64 + b' % 64) b' bs := by rw [contF, if_pos h]
theorem cont_end {v b : Nat} {bs : List Nat} (h : b / 64 % 2 = 0) : contF v b bs = some (v, bs) := by
  cases bs with
  | nil => rw [contF, if_neg (by (first | lia | omega))]
  | cons b' bs => rw [contF, if_neg (by (first | lia | omega))]
theorem o_go (d p : Nat) (h : d < 64) : (64 + d + 128 * p) / 64 % 2 = 1 ∧ (64 + d + 128 * p) % 64 = d := by (first | lia | omega)
theorem o_en (d p : Nat) (h : d < 64) : (d + 128 * p) / 64 % 2 = 0 ∧ (d + 128 * p) % 64 = d := by (first | lia | omega)
theorem n64 (n : Nat) : n % 64 < 64 := Nat.mod_lt _ (by decide)
theorem read_one {n k : Nat} {rest : List Nat} (hn : n < 2 ^ 18) : ∃ j, readF (par k (octN n ++ rest)) = some (n, par j rest) := by
  unfold octN
  by_cases h1 : n < 64
  · rw [octR_1 h1]
    refine ⟨k + 1, ?_⟩
    show contF ((n % 64 + 128 * (k % 2)) % 64) (n % 64 + 128 * (k % 2)) (par (k + 1) rest) = _
    rw [cont_end (o_en _ _ (n64 _)).1, (o_en _ _ (n64 _)).2, Nat.mod_eq_of_lt h1]
  · by_cases h2 : n < 4096
    · rw [octR_2 (Nat.le_of_not_lt h1) h2]
      refine ⟨k + 1 + 1, ?_⟩
      show contF ((64 + n / 64 % 64 + 128 * (k % 2)) % 64) (64 + n / 64 % 64 + 128 * (k % 2)) ((n % 64 + 128 * ((k + 1) % 2)) :: par (k + 1 + 1) rest) = _
      rw [cont_go (o_go _ _ (n64 _)).1, cont_end (o_en _ _ (n64 _)).1, (o_go _ _ (n64 _)).2, (o_en _ _ (n64 _)).2, show n / 64 % 64 * 64 + n % 64 = n by (first | lia | omega)]
    · rw [octR_3 (Nat.le_of_not_lt h2)]
      refine ⟨k + 1 + 1 + 1, ?_⟩
      show contF ((64 + n / 4096 % 64 + 128 * (k % 2)) % 64) (64 + n / 4096 % 64 + 128 * (k % 2)) ((64 + n / 64 % 64 + 128 * ((k + 1) % 2)) :: (n % 64 + 128 * ((k + 1 + 1) % 2)) :: par (k + 1 + 1 + 1) rest) = _
      rw [cont_go (o_go _ _ (n64 _)).1, cont_go (o_go _ _ (n64 _)).1, cont_end (o_en _ _ (n64 _)).1, (o_go _ _ (n64 _)).2, (o_go _ _ (n64 _)).2, (o_en _ _ (n64 _)).2, show (n / 4096 % 64 * 64 + n / 64 % 64) * 64 + n % 64 = n by (first | lia | omega)]
theorem rds_par : ∀ (ns : List Nat) (k : Nat), (∀ n ∈ ns, n < 2 ^ 18) → Rds (par k (tapeF ns)) ns
  | [], k, _ => .nil
  | n :: ns, k, h => by
    have e : tapeF (n :: ns) = octN n ++ tapeF ns := rfl
    rw [e]
    obtain ⟨j, hr⟩ := read_one (k := k) (rest := tapeF ns) (h n (.head _))
    exact .cons hr (Nat.lt_trans (h n (.head _)) (by decide)) (rds_par ns j fun m hm => h m (.tail _ hm))
theorem rds_oct {ns : List Nat} (h : ∀ n ∈ ns, n < 2 ^ 18) : Rds (octF ns) ns := by rw [octF_par]; exact rds_par ns 0 h
noncomputable def goodR (os : List Int) (gs : List (Int × Int)) (i : Nat) (r : R4) : Prop := ∃ q n : Nat, r.p = q ∧ r.n = n ∧ 0 < n ∧ q + n ≤ i ∧ ∀ pl, q ≤ pl → pl < q + n → 0 ≤ os.getD pl 0 ∧ r.s = (gs.getD (os.getD pl 0).toNat (0, 0)).1 ∧ r.m = (gs.getD (os.getD pl 0).toNat (0, 0)).2
theorem goodR.le {os : List Int} {gs : List (Int × Int)} {i j : Nat} {r : R4} (h : goodR os gs i r) (hj : i ≤ j) : goodR os gs j r := let ⟨q, n, a, b, c, d, e⟩ := h; ⟨q, n, a, b, c, by (first | lia | omega), e⟩
theorem rowsS_ok (os : List Int) (gs : List (Int × Int)) : ∀ i,
    (∀ r ∈ (rowsS os gs i).1 ++ (rowsS os gs i).2.toList, goodR os gs i r) ∧
    (∀ pl, pl < i → 0 ≤ os.getD pl 0 → ∃ r ∈ (rowsS os gs i).1 ++ (rowsS os gs i).2.toList, r.p ≤ pl ∧ (pl : Int) < r.p + r.n) ∧
    (0 < i → 0 ≤ os.getD (i - 1) 0 → ∃ r, (rowsS os gs i).2 = some r ∧ r.p + r.n = i)
  | 0 => by simp [rowsS]
  | i + 1 => by
    obtain ⟨h1, h2, h3⟩ := rowsS_ok os gs i
    rw [rowsS]
    by_cases c : 0 ≤ os.getD i 0 ∧ 0 < i ∧ os.getD (i - 1) 0 = os.getD i 0
    · rw [if_pos c]
      obtain ⟨c1, c2, c3⟩ := c
      obtain ⟨r, er, hr⟩ := h3 c2 (by (first | lia | omega))
      have gr := h1 r (List.mem_append_right _ (by rw [er]; simp))
      rw [er] at h1 h2 ⊢
      simp only [Option.map_some, Option.toList_some] at h1 h2 ⊢
      obtain ⟨q, n, e1, e2, hn, hq, k⟩ := gr
      refine ⟨fun r' hr' => ?_, fun pl hpl ho => ?_, fun _ _ => ⟨_, rfl, ?_⟩⟩
      · rcases List.mem_append.mp hr' with z | z
        · exact (h1 r' (List.mem_append_left _ z)).le (by (first | lia | omega))
        · cases List.mem_singleton.mp z
          refine ⟨q, n + 1, e1, by simp [e2], by (first | lia | omega), by (first | lia | omega), fun pl p1 p2 => ?_⟩
          by_cases z : pl < q + n
          · exact k pl p1 z
          · have : pl = i := by (first | lia | omega)
            subst this
            rw [← c3]
            exact k (pl - 1) (by (first | lia | omega)) (by (first | lia | omega))
      · by_cases z : pl < i
        · obtain ⟨r', hr', p1, p2⟩ := h2 pl z ho
          rcases List.mem_append.mp hr' with y | y
          · exact ⟨r', List.mem_append_left _ y, p1, p2⟩
          · cases List.mem_singleton.mp y
            exact ⟨_, List.mem_append_right _ (.head _), p1, by show (pl : Int) < r.p + (r.n + 1); (first | lia | omega)⟩
        · exact ⟨_, List.mem_append_right _ (.head _), by show r.p ≤ (pl : Int); (first | lia | omega), by show (pl : Int) < r.p + (r.n + 1); (first | lia | omega)⟩
      · show r.p + (r.n + 1) = _; (first | lia | omega)
    · rw [if_neg c]
      by_cases d : 0 ≤ os.getD i 0
      · rw [if_pos d]
        simp only [Option.toList_some]
        refine ⟨fun r' hr' => ?_, fun pl hpl ho => ?_, fun _ _ => ⟨_, rfl, ?_⟩⟩
        · rcases List.mem_append.mp hr' with z | z
          · exact (h1 r' z).le (by (first | lia | omega))
          · cases List.mem_singleton.mp z
            refine ⟨i, 1, rfl, rfl, by (first | lia | omega), by (first | lia | omega), fun pl p1 p2 => ?_⟩
            have : pl = i := by (first | lia | omega)
            subst this
            exact ⟨d, rfl, rfl⟩
        · by_cases z : pl < i
          · obtain ⟨r', hr', p⟩ := h2 pl z ho
            exact ⟨r', List.mem_append_left _ hr', p⟩
          · exact ⟨_, List.mem_append_right _ (.head _), by show (i : Int) ≤ (pl : Int); (first | lia | omega), by show (pl : Int) < (i : Int) + 1; (first | lia | omega)⟩
        · show (i : Int) + 1 = _; (first | lia | omega)
      · rw [if_neg d]
        refine ⟨fun r' hr' => (h1 r' hr').le (by (first | lia | omega)), fun pl hpl ho => ?_, fun _ ho => ?_⟩
        · by_cases z : pl < i
          · exact h2 pl z ho
          · have : pl = i := by (first | lia | omega)
            subst this; exact absurd ho d
        · rw [Nat.add_sub_cancel] at ho; exact absurd ho d
theorem met_own {os : List Int} {gs : List (Int × Int)} {pl : Nat} (hp : pl < os.length) (ho : 0 ≤ os.getD pl 0) : (metF (rowsF os gs) pl).s = (gs.getD (os.getD pl 0).toNat (0, 0)).1 ∧ (metF (rowsF os gs) pl).m = (gs.getD (os.getD pl 0).toNat (0, 0)).2 := by
  obtain ⟨h1, h2, _⟩ := rowsS_ok os gs os.length
  obtain ⟨r, hr, p1, p2⟩ := h2 pl hp ho
  unfold metF rowsF
  have hm : r ∈ ((rowsS os gs os.length).1 ++ (rowsS os gs os.length).2.toList).filter fun r => decide (r.p ≤ (pl : Int)) && decide ((pl : Int) < r.p + r.n) := List.mem_filter.mpr ⟨hr, by simp [p1, p2]⟩
  cases hf : ((rowsS os gs os.length).1 ++ (rowsS os gs os.length).2.toList).filter fun r => decide (r.p ≤ (pl : Int)) && decide ((pl : Int) < r.p + r.n) with
  | nil => rw [hf] at hm; cases hm
  | cons r' rs =>
    have hm' : r' ∈ ((rowsS os gs os.length).1 ++ (rowsS os gs os.length).2.toList).filter fun r => decide (r.p ≤ (pl : Int)) && decide ((pl : Int) < r.p + r.n) := by rw [hf]; exact .head _
    obtain ⟨hm1, hm2⟩ := List.mem_filter.mp hm'
    simp only [Bool.and_eq_true, decide_eq_true_eq] at hm2
    obtain ⟨q, n, e1, e2, hn, hq, k⟩ := h1 r' hm1
    exact (k pl (by (first | lia | omega)) (by (first | lia | omega))).2
theorem met_none {os : List Int} {gs : List (Int × Int)} {pl : Nat} (ho : os.getD pl 0 < 0) : metF (rowsF os gs) pl = ⟨0, 0, -1, 0⟩ := by
  obtain ⟨h1, _⟩ := rowsS_ok os gs os.length
  unfold metF rowsF
  cases hf : ((rowsS os gs os.length).1 ++ (rowsS os gs os.length).2.toList).filter fun r => decide (r.p ≤ (pl : Int)) && decide ((pl : Int) < r.p + r.n) with
  | nil => rfl
  | cons r' rs =>
    have hm' : r' ∈ ((rowsS os gs os.length).1 ++ (rowsS os gs os.length).2.toList).filter fun r => decide (r.p ≤ (pl : Int)) && decide ((pl : Int) < r.p + r.n) := by rw [hf]; exact .head _
    obtain ⟨hm1, hm2⟩ := List.mem_filter.mp hm'
    simp only [Bool.and_eq_true, decide_eq_true_eq] at hm2
    obtain ⟨q, n, e1, e2, hn, hq, k⟩ := h1 r' hm1
    have := (k pl (by (first | lia | omega)) (by (first | lia | omega))).1
    (first | lia | omega)
theorem layN_bd : ∀ (t : Tm) (owner : Int) (depth dn gn : Nat), TmOk t → (∀ d ∈ (layN t owner depth dn gn).ds, 0 ≤ d ∧ d ≤ 20004 + 5 * ((dn + t.size : Nat) : Int)) ∧
    (∀ o ∈ (layN t owner depth dn gn).os, o = owner ∨ ((gn : Int) ≤ o ∧ o < gn + (layN t owner depth dn gn).gs.length)) ∧
    (∀ p ∈ (layN t owner depth dn gn).gs, 0 ≤ p.1 ∧ p.1 ≤ ((dn + t.size : Nat) : Int) ∧ 0 ≤ p.2 ∧ p.2 ≤ 2 * ((depth + t.size : Nat) : Int) + 1)
  | .leaf k x, owner, depth, dn, gn, ok => by
    obtain ⟨hk, hx0, hx1⟩ : (k = 0 ∨ k = 1) ∧ 0 ≤ x ∧ x < 10 ^ 6 := by cases ok; exact ⟨‹_›, ‹_›, ‹_›⟩
    have f1 : 0 ≤ x.fmod 2001 ∧ x.fmod 2001 < 2001 := ⟨Int.fmod_nonneg_of_pos _ (by decide), Int.fmod_lt_of_pos _ (by decide)⟩
    have f2 : 0 ≤ x.fmod 16 ∧ x.fmod 16 < 16 := ⟨Int.fmod_nonneg_of_pos _ (by decide), Int.fmod_lt_of_pos _ (by decide)⟩
    unfold layN
    refine ⟨fun d hd => ?_, fun o ho => .inl (List.mem_singleton.mp ho), fun p hp => nomatch hp⟩
    cases List.mem_singleton.mp hd
    rcases hk with rfl | rfl
    · rw [if_pos rfl]; (first | lia | omega)
    · rw [if_neg (by decide)]; (first | lia | omega)
  | .node k a b, owner, depth, dn, gn, ok => by
    obtain ⟨hk1, hk2, oa, ob⟩ : 2 ≤ k ∧ k ≤ 4 ∧ TmOk a ∧ TmOk b := by cases ok; exact ⟨‹_›, ‹_›, ‹_›, ‹_›⟩
    unfold layN
    by_cases hk : k = 4
    · rw [if_pos hk]
      dsimp only
      obtain ⟨a1, a2, a3⟩ := layN_bd a gn depth dn (gn + 1) oa
      have la := layN_len a gn depth dn (gn + 1)
      generalize layN a gn depth dn (gn + 1) = p at *
      obtain ⟨b1, b2, b3⟩ := layN_bd b owner depth (dn + p.ds.length + 1) (gn + 1 + p.gs.length) ob
      have lb := layN_len b owner depth (dn + p.ds.length + 1) (gn + 1 + p.gs.length)
      generalize layN b owner depth (dn + p.ds.length + 1) (gn + 1 + p.gs.length) = q at *
      simp only [Tm.size]
      have gf : 0 ≤ (gn : Int).fmod 2 ∧ (gn : Int).fmod 2 < 2 := ⟨Int.fmod_nonneg_of_pos _ (by decide), Int.fmod_lt_of_pos _ (by decide)⟩
      refine ⟨fun d hd => ?_, fun o ho => ?_, fun g hg => ?_⟩
      · rcases List.mem_append.mp hd with hd | hd
        · rcases List.mem_append.mp hd with hd | hd
          · have := a1 d hd; (first | lia | omega)
          · cases List.mem_singleton.mp hd; (first | lia | omega)
        · have := b1 d hd; (first | lia | omega)
      · simp only [List.length_cons, List.length_append]
        rcases List.mem_append.mp ho with ho | ho
        · rcases List.mem_append.mp ho with ho | ho
          · have := a2 o ho; (first | lia | omega)
          · exact .inl (List.mem_singleton.mp ho)
        · have := b2 o ho; (first | lia | omega)
      · rcases List.mem_cons.mp hg with rfl | hg
        · simp only; (first | lia | omega)
        · rcases List.mem_append.mp hg with hg | hg
          · have := a3 g hg; (first | lia | omega)
          · have := b3 g hg; (first | lia | omega)
    · rw [if_neg hk]
      dsimp only
      obtain ⟨a1, a2, a3⟩ := layN_bd a owner depth dn gn oa
      have la := layN_len a owner depth dn gn
      generalize layN a owner depth dn gn = p at *
      obtain ⟨b1, b2, b3⟩ := layN_bd b owner (depth + 1) (dn + p.ds.length) (gn + p.gs.length) ob
      have lb := layN_len b owner (depth + 1) (dn + p.ds.length) (gn + p.gs.length)
      generalize layN b owner (depth + 1) (dn + p.ds.length) (gn + p.gs.length) = q at *
      simp only [Tm.size]
      refine ⟨fun d hd => ?_, fun o ho => ?_, fun g hg => ?_⟩
      · rcases List.mem_append.mp hd with hd | hd
        · rcases List.mem_append.mp hd with hd | hd
          · have := a1 d hd; (first | lia | omega)
          · have := b1 d hd; (first | lia | omega)
        · cases List.mem_singleton.mp hd; (first | lia | omega)
      · simp only [List.length_cons, List.length_append]
        rcases List.mem_append.mp ho with ho | ho
        · rcases List.mem_append.mp ho with ho | ho
          · have := a2 o ho; (first | lia | omega)
          · have := b2 o ho; (first | lia | omega)
        · exact .inl (List.mem_singleton.mp ho)
      · rcases List.mem_append.mp hg with hg | hg
        · have := a3 g hg; (first | lia | omega)
        · have := b3 g hg; (first | lia | omega)
noncomputable def seg {α : Type} (xs : List α) (n : Nat) (ys : List α) : Prop := ∃ pre post, xs = pre ++ (ys ++ post) ∧ pre.length = n
theorem seg.left {α : Type} {xs a b : List α} {n : Nat} (h : seg xs n (a ++ b)) : seg xs n a := let ⟨pre, post, e, l⟩ := h; ⟨pre, b ++ post, by rw [e, List.append_assoc], l⟩
theorem seg.right {α : Type} {xs a b : List α} {n : Nat} (h : seg xs n (a ++ b)) : seg xs (n + a.length) b := let ⟨pre, post, e, l⟩ := h; ⟨pre ++ a, post, by rw [e, List.append_assoc, List.append_assoc], by rw [List.length_append, l]⟩
theorem seg.get {α : Type} {xs : List α} {a : α} {n : Nat} (h : seg xs n [a]) : xs[n]? = some a := by
  obtain ⟨pre, post, rfl, rfl⟩ := h
  rw [List.getElem?_append_right (Nat.le_refl _), Nat.sub_self]; rfl
theorem seg.getD {α : Type} {xs : List α} {a d : α} {n : Nat} (h : seg xs n [a]) : n < xs.length ∧ xs.getD n d = a := by
  have e := h.get
  refine ⟨(List.getElem?_eq_some_iff.mp e).1, ?_⟩
  rw [List.getD_eq_getElem?_getD, e]; rfl
theorem seg.deed {deeds : List Nat} {d : Nat} {n : Nat} (h : seg (cst deeds) n [(d : Int)]) : deeds[n]? = some d := by
  have e := h.get
  rw [List.getElem?_map] at e
  cases q : deeds[n]? with
  | none => rw [q] at e; cases e
  | some m => rw [q] at e; simp at e; rw [show m = d by (first | lia | omega)]
noncomputable def Path (ws : List (List Nat)) (deeds : List Nat) (rows : List R4) (a b : Cf) : Prop := ∀ N e, Runs ws deeds rows N b e → ∃ N', Runs ws deeds rows N' a e
section
variable {ws : List (List Nat)} {deeds : List Nat} {rows : List R4} {a b d : Cf}
theorem Path.rfl : Path ws deeds rows a a := fun N _ r => ⟨N, r⟩
theorem Path.trans (x : Path ws deeds rows a b) (y : Path ws deeds rows b d) : Path ws deeds rows a d := fun N e r => let ⟨N', r'⟩ := y N e r; x N' e r'
theorem Path.one (hl : a.log.length ≤ 4000) (hp : a.pile.length ≤ 4000) (s : Step ws deeds rows a b) : Path ws deeds rows a b := fun N e r => ⟨N + 1, .step hl hp s r⟩
end
noncomputable def stopC (gs : List (Int × Int)) (owner : Int) (log : List Dt) (pile : List Int) : Cf :=
  if owner < 0 then ⟨log, [], -1⟩ else ⟨log, pile.take ((gs.getD owner.toNat (0, 0)).2.toNat / 2), (gs.getD owner.toNat (0, 0)).1⟩
noncomputable def OwnG (gs : List (Int × Int)) (owner : Int) (depth : Nat) : Prop := 0 ≤ owner → 0 ≤ (gs.getD owner.toNat (0, 0)).2 ∧ (gs.getD owner.toNat (0, 0)).2.toNat / 2 ≤ depth
theorem stopC_app {gs : List (Int × Int)} {owner : Int} {log : List Dt} {pile more : List Int} (h : OwnG gs owner pile.length) : stopC gs owner log (pile ++ more) = stopC gs owner log pile := by
  unfold stopC
  split
  · rfl
  · next hn => rw [List.take_append_of_le_length (h (by (first | lia | omega))).2]
theorem stop_step {ws : List (List Nat)} {deeds : List Nat} {os : List Int} {gs : List (Int × Int)} {owner : Int} {log : List Dt} {pile : List Int} {x : Int} {pl k : Nat} (hd : deeds[pl]? = some k) (hk : k = 2 ∨ k = 3) (ho : seg os pl [owner]) (h : OwnG gs owner pile.length) :
    Step ws deeds (rowsF os gs) ⟨log, pile ++ [x, 0], pl⟩ (stopC gs owner (log ++ [.str "none"]) pile) := by
  obtain ⟨hlt, e⟩ := ho.getD (d := 0)
  unfold stopC
  by_cases hn : owner < 0
  · rw [if_pos hn]
    have em := met_none (os := os) (gs := gs) (pl := pl) (by (first | lia | omega))
    have s := Step.stop (ws := ws) (deeds := deeds) (rows := rowsF os gs) (log := log) (pile := pile) (x := x) (m := 0) hd hk (by rw [em]; rfl)
    rw [em] at s
    exact s
  · rw [if_neg hn]
    obtain ⟨h1, h2⟩ := h (by (first | lia | omega))
    have em := met_own (os := os) (gs := gs) hlt (by (first | lia | omega))
    rw [e] at em
    have s := Step.stop (ws := ws) (deeds := deeds) (rows := rowsF os gs) (log := log) (pile := pile) (x := x) (m := (gs.getD owner.toNat (0, 0)).2.toNat) hd hk (by rw [em.2]; (first | lia | omega))
    rw [em.1, List.take_append_of_le_length h2] at s
    exact s
theorem sim {ws : List (List Nat)} (W : Wds ws) {deeds : List Nat} {os : List Int} {gs : List (Int × Int)} : ∀ (t : Tm) (owner : Int) (depth dn gn : Nat) (log : List Dt) (pile : List Int), TmOk t →
    seg (cst deeds) dn (layN t owner depth dn gn).ds → seg os dn (layN t owner depth dn gn).os → seg gs gn (layN t owner depth dn gn).gs → pile.length = depth → OwnG gs owner depth → log.length + 4 * t.size ≤ 4000 → depth + t.size ≤ 3900 →
    match (worthF ws t).1 with
    | some v => Path ws deeds (rowsF os gs) ⟨log, pile, dn⟩ ⟨log ++ (worthF ws t).2, pile ++ [v], ((dn + t.size : Nat) : Int)⟩
    | none => Path ws deeds (rowsF os gs) ⟨log, pile, dn⟩ (stopC gs owner (log ++ (worthF ws t).2) pile)
  | .leaf k x, owner, depth, dn, gn, log, pile, ok, sd, so, sg, hp, hown, hl, hz => by
    obtain ⟨hk, hx0, hx1⟩ : (k = 0 ∨ k = 1) ∧ 0 ≤ x ∧ x < 10 ^ 6 := by cases ok; exact ⟨‹_›, ‹_›, ‹_›⟩
    have f1 : 0 ≤ x.fmod 2001 ∧ x.fmod 2001 < 2001 := ⟨Int.fmod_nonneg_of_pos _ (by decide), Int.fmod_lt_of_pos _ (by decide)⟩
    simp only [Tm.size] at hl hz ⊢
    simp only [layN] at sd so
    rcases hk with rfl | rfl
    · rw [if_pos _root_.rfl] at sd
      have ew : worthF ws (.leaf 0 x) = (some (x.fmod 2001 - 1000), [.int (x.fmod 2001 - 1000 + 1000), .tup [.int (x.fmod 2001 - 1000), .int (x.fmod 2001 - 1000)], .str (iText (x.fmod 2001 - 1000)), .str (iText (x.fmod 2001 - 1000))]) := by unfold worthF; rw [if_pos _root_.rfl]
      rw [ew]
      obtain ⟨part, hpart⟩ : ∃ n : Nat, x.fmod 2001 = (n : Int) := ⟨(x.fmod 2001).toNat, by (first | lia | omega)⟩
      rw [hpart] at sd f1 ⊢
      rw [show (0 : Int) + 5 * (part : Int) = ((5 * part : Nat) : Int) by (first | lia | omega)] at sd
      rw [show (part : Int) - 1000 + 1000 = part by (first | lia | omega)]
      exact .one (by show log.length ≤ 4000; (first | lia | omega)) (by show pile.length ≤ 4000; (first | lia | omega)) (Step.num sd.deed (by (first | lia | omega)))
    · rw [if_neg (by decide)] at sd
      have f2 : 0 ≤ x.fmod 16 ∧ x.fmod 16 < 16 := ⟨Int.fmod_nonneg_of_pos _ (by decide), Int.fmod_lt_of_pos _ (by decide)⟩
      have ew : worthF ws (.leaf 1 x) = (some (wpart ws (x.toNat % 16)), [.str (iText (wpart ws (x.toNat % 16)))]) := by unfold worthF; rw [if_neg (by decide)]
      rw [ew]
      have ex : x.fmod 16 = ((x.toNat % 16 : Nat) : Int) := by
        rw [Int.fmod_eq_emod_of_nonneg _ (by decide)]; (first | lia | omega)
      rw [ex] at sd f2
      generalize x.toNat % 16 = part at *
      rw [show (1 : Int) + 5 * (part : Int) = ((5 * part + 1 : Nat) : Int) by (first | lia | omega)] at sd
      exact .one (by show log.length ≤ 4000; (first | lia | omega)) (by show pile.length ≤ 4000; (first | lia | omega)) (Step.dist sd.deed (by (first | lia | omega)))
  | .node k a b, owner, depth, dn, gn, log, pile, ok, sd, so, sg, hp, hown, hl, hz => by
    obtain ⟨hk1, hk2, oa, ob⟩ : 2 ≤ k ∧ k ≤ 4 ∧ TmOk a ∧ TmOk b := by cases ok; exact ⟨‹_›, ‹_›, ‹_›, ‹_›⟩
    simp only [Tm.size] at hl hz ⊢
    have ew : worthF ws (.node k a b) = worthN k (worthF ws a) (worthF ws b) := _root_.rfl
    rw [ew]
    have lwa := worth_len ws a
    have lwb := worth_len ws b
    have swa := worth_small W a
    have swb := worth_small W b
    unfold layN at sd so sg
    by_cases hk : k = 4
    · subst hk
      rw [if_pos _root_.rfl] at sd so sg
      dsimp only at sd so sg
      have la := layN_len a gn depth dn (gn + 1)
      have lb := layN_len b owner depth (dn + (layN a gn depth dn (gn + 1)).ds.length + 1) (gn + 1 + (layN a gn depth dn (gn + 1)).gs.length)
      have sa := sim W (deeds := deeds) (os := os) (gs := gs) a gn depth dn (gn + 1) log pile oa sd.left.left so.left.left (seg.left (b := (layN b owner depth (dn + (layN a gn depth dn (gn + 1)).ds.length + 1) (gn + 1 + (layN a gn depth dn (gn + 1)).gs.length)).gs) (seg.right (a := [_]) sg)) hp ?own1 (by (first | lia | omega)) (by (first | lia | omega))
      case own1 =>
        intro _
        obtain ⟨_, e⟩ := (seg.left (a := [_]) sg).getD (d := (0, 0))
        rw [Int.toNat_natCast, e]
        have gf : 0 ≤ (gn : Int).fmod 2 ∧ (gn : Int).fmod 2 < 2 := ⟨Int.fmod_nonneg_of_pos _ (by decide), Int.fmod_lt_of_pos _ (by decide)⟩
        simp only
        (first | lia | omega)
      have sb := fun log' => sim W (deeds := deeds) (os := os) (gs := gs) b owner depth (dn + (layN a gn depth dn (gn + 1)).ds.length + 1) (gn + 1 + (layN a gn depth dn (gn + 1)).gs.length) log' pile ob
        (by have := sd.right; simp only [List.length_append, List.length_cons, List.length_nil] at this; exact this) (by have := so.right; simp only [List.length_append, List.length_cons, List.length_nil, la.2.1, ← la.1] at this; exact this) (by have := seg.right (seg.right (a := [_]) sg); simpa using this) hp hown
      have sj := (sd.left.right).deed
      have so' : seg os (dn + a.size) [owner] := by have := so.left.right; rwa [la.2.1] at this
      have eg := (seg.left (a := [_]) sg).getD (d := (0, 0))
      rw [lb.1, la.1, Nat.add_comm 4] at sj
      rw [la.1] at sb
      unfold worthN
      rw [if_pos _root_.rfl]
      cases ha : (worthF ws a).1 with
      | some v =>
        rw [ha] at sa
        refine sa.trans (.one (by simp only [List.length_append]; (first | lia | omega)) (by simp only [List.length_append, List.length_cons, List.length_nil]; (first | lia | omega)) ?_)
        have s := Step.jump (ws := ws) (rows := rowsF os gs) (log := log ++ (worthF ws a).2) (pile := pile ++ [v]) sj
        rwa [show dn + a.size + 1 + b.size = dn + (a.size + b.size + 1) by (first | lia | omega)] at s
      | none =>
        rw [ha] at sa
        have es : stopC gs gn (log ++ (worthF ws a).2) pile = ⟨log ++ (worthF ws a).2, pile, ((dn + a.size + 1 : Nat) : Int)⟩ := by
          unfold stopC
          rw [if_neg (by (first | lia | omega)), Int.toNat_natCast, eg.2, la.1]
          have gf : 0 ≤ (gn : Int).fmod 2 ∧ (gn : Int).fmod 2 < 2 := ⟨Int.fmod_nonneg_of_pos _ (by decide), Int.fmod_lt_of_pos _ (by decide)⟩
          rw [List.take_of_length_le (by simp only; (first | lia | omega))]
        rw [es] at sa
        have sb := sb (log ++ (worthF ws a).2) (by rw [List.length_append]; (first | lia | omega)) (by (first | lia | omega))
        show match (worthF ws b).1 with | some v => _ | none => _
        cases hb : (worthF ws b).1 with
        | some v =>
          rw [hb] at sb
          simp only at sb ⊢
          rw [← List.append_assoc]
          rw [show dn + a.size + 1 + b.size = dn + (a.size + b.size + 1) by (first | lia | omega)] at sb
          exact sa.trans sb
        | none =>
          rw [hb] at sb
          simp only at sb ⊢
          rw [← List.append_assoc]
          exact sa.trans sb
    · rw [if_neg hk] at sd so sg
      dsimp only at sd so sg
      have la := layN_len a owner depth dn gn
      have lb := layN_len b owner (depth + 1) (dn + (layN a owner depth dn gn).ds.length) (gn + (layN a owner depth dn gn).gs.length)
      have sa := sim W (deeds := deeds) (os := os) (gs := gs) a owner depth dn gn log pile oa sd.left.left so.left.left sg.left hp hown (by (first | lia | omega)) (by (first | lia | omega))
      have sb := fun log' x => sim W (deeds := deeds) (os := os) (gs := gs) b owner (depth + 1) (dn + (layN a owner depth dn gn).ds.length) (gn + (layN a owner depth dn gn).gs.length) log' (pile ++ [x]) ob sd.left.right
        (by have := so.left.right; rwa [la.2.1, ← la.1] at this) sg.right (by rw [List.length_append, hp]; rfl) (fun h => ⟨(hown h).1, Nat.le_succ_of_le (hown h).2⟩)
      have sk := sd.right
      have sko := so.right
      rw [List.length_append, lb.1, la.1] at sk
      rw [List.length_append, lb.2.1, la.2.1] at sko
      obtain ⟨kn, hkn⟩ : ∃ n : Nat, k = (n : Int) := ⟨k.toNat, by (first | lia | omega)⟩
      subst hkn
      have dk := sk.deed
      have hk23 : kn = 2 ∨ kn = 3 := by (first | lia | omega)
      rw [la.1] at sb
      unfold worthN
      rw [if_neg hk]
      cases ha : (worthF ws a).1 with
      | none =>
        rw [ha] at sa
        exact sa
      | some x =>
        rw [ha] at sa
        have sb := sb (log ++ (worthF ws a).2) x (by rw [List.length_append]; (first | lia | omega)) (by (first | lia | omega))
        cases hb : (worthF ws b).1 with
        | none =>
          rw [hb] at sb
          simp only at sa sb ⊢
          rw [stopC_app (by rw [hp]; exact hown), List.append_assoc] at sb
          exact sa.trans sb
        | some y =>
          rw [hb] at sb
          simp only at sa sb ⊢
          have sc := sa.trans sb
          rw [List.append_assoc, List.append_assoc, show dn + a.size + b.size = dn + (a.size + b.size) by (first | lia | omega)] at sc
          by_cases hy : y = 0
          · subst hy
            rw [if_pos _root_.rfl]
            refine sc.trans (.one (by simp only [List.length_append]; (first | lia | omega)) (by simp only [List.length_append, List.length_cons, List.length_nil]; (first | lia | omega)) ?_)
            have s := stop_step (ws := ws) (log := log ++ ((worthF ws a).2 ++ (worthF ws b).2)) (pile := pile) (x := x) dk hk23 sko (by rw [hp]; exact hown)
            rw [List.append_assoc] at s
            exact s
          · rw [if_neg hy]
            refine sc.trans (.one (by simp only [List.length_append]; (first | lia | omega)) (by simp only [List.length_append, List.length_cons, List.length_nil]; (first | lia | omega)) ?_)
            have s := Step.div (ws := ws) (rows := rowsF os gs) (log := log ++ ((worthF ws a).2 ++ (worthF ws b).2)) (pile := pile) (x := x) (y := y) dk hk23 hy (swa x ha) (swb y hb)
            rw [List.append_assoc] at s
            have ek : (if kn = 2 then x.fdiv y else x.fmod y) = (if (kn : Int) = 2 then x.fdiv y else x.fmod y) := by
              rcases hk23 with rfl | rfl <;> simp
            rw [ek] at s
            exact s
noncomputable abbrev pg1 (ts : List Tm) (i : Nat) : LN := layN (ts.getD i (.leaf 0 0)) (-1) i (pageS ts i).ds.length (pageS ts i).gs.length
theorem pageS_up (ts : List Tm) : ∀ j i, i ≤ j → ∃ d o g, (pageS ts j).ds = (pageS ts i).ds ++ d ∧ (pageS ts j).os = (pageS ts i).os ++ o ∧ (pageS ts j).gs = (pageS ts i).gs ++ g
  | 0, i, h => by
    have : i = 0 := by (first | lia | omega)
    subst this
    exact ⟨[], [], [], by simp, by simp, by simp⟩
  | j + 1, i, h => by
    by_cases e : i = j + 1
    · subst e
      exact ⟨[], [], [], by simp, by simp, by simp⟩
    · obtain ⟨d, o, g, e1, e2, e3⟩ := pageS_up ts j i (by (first | lia | omega))
      refine ⟨d ++ (pg1 ts j).ds, o ++ (pg1 ts j).os, g ++ (pg1 ts j).gs, ?_, ?_, ?_⟩
      · rw [show (pageS ts (j + 1)).ds = (pageS ts j).ds ++ (pg1 ts j).ds from rfl]
        generalize pg1 ts j = q
        rw [e1, List.append_assoc]
      · rw [show (pageS ts (j + 1)).os = (pageS ts j).os ++ (pg1 ts j).os from rfl]
        generalize pg1 ts j = q
        rw [e2, List.append_assoc]
      · rw [show (pageS ts (j + 1)).gs = (pageS ts j).gs ++ (pg1 ts j).gs from rfl]
        generalize pg1 ts j = q
        rw [e3, List.append_assoc]
theorem pageS_seg (ts : List Tm) {i : Nat} (h : i < ts.length) : seg (pageS ts ts.length).ds (pageS ts i).ds.length (pg1 ts i).ds ∧ seg (pageS ts ts.length).os (pageS ts i).ds.length (pg1 ts i).os ∧ seg (pageS ts ts.length).gs (pageS ts i).gs.length (pg1 ts i).gs := by
  obtain ⟨d, o, g, e1, e2, e3⟩ := pageS_up ts ts.length (i + 1) h
  have l := pageS_len (ts := ts) (i := i) (by (first | lia | omega))
  refine ⟨⟨(pageS ts i).ds, d, ?_, rfl⟩, ⟨(pageS ts i).os, o, ?_, by rw [l.1, l.2.1]⟩, ⟨(pageS ts i).gs, g, ?_, rfl⟩⟩
  · rw [e1, ← List.append_assoc]; rfl
  · rw [e2, ← List.append_assoc]; rfl
  · rw [e3, ← List.append_assoc]; rfl
theorem getD_mem {ts : List Tm} {i : Nat} (h : i < ts.length) : ts.getD i (.leaf 0 0) ∈ ts := by
  rw [List.getD_eq_getElem?_getD, List.getElem?_eq_getElem h]; exact List.getElem_mem h
theorem pageS_bd {ts : List Tm} (ok : ∀ t ∈ ts, TmOk t) : ∀ {i : Nat}, i ≤ ts.length → (∀ d ∈ (pageS ts i).ds, 0 ≤ d ∧ d ≤ 20004 + 5 * (szS ts i : Int)) ∧
    (∀ o ∈ (pageS ts i).os, o = -1 ∨ (0 ≤ o ∧ o < (pageS ts i).gs.length)) ∧
    (∀ p ∈ (pageS ts i).gs, 0 ≤ p.1 ∧ p.1 ≤ (szS ts i : Int) ∧ 0 ≤ p.2 ∧ p.2 ≤ 2 * ((i + szS ts i : Nat) : Int) + 1)
  | 0, _ => by simp [pageS]
  | i + 1, h => by
    obtain ⟨h1, h2, h3⟩ := pageS_bd ok (i := i) (by (first | lia | omega))
    obtain ⟨b1, b2, b3⟩ := layN_bd (ts.getD i (.leaf 0 0)) (-1) i (pageS ts i).ds.length (pageS ts i).gs.length (ok _ (getD_mem (by (first | lia | omega))))
    have e := szS_succ (ts := ts) (i := i) (by (first | lia | omega))
    have l := pageS_len (ts := ts) (i := i) (by (first | lia | omega))
    refine ⟨fun d hd => ?_, fun o ho => ?_, fun p hp => ?_⟩
    · rcases List.mem_append.mp hd with hd | hd
      · have := h1 d hd; (first | lia | omega)
      · have := b1 d hd; (first | lia | omega)
    · have el : (pageS ts (i + 1)).gs.length = (pageS ts i).gs.length + (pg1 ts i).gs.length := by show (_ ++ _ : List _).length = _; rw [List.length_append]
      rcases List.mem_append.mp ho with ho | ho
      · have := h2 o ho; (first | lia | omega)
      · have := b2 o ho
        have e2 : (pg1 ts i).gs.length = (layN (ts.getD i (.leaf 0 0)) (-1) i (pageS ts i).ds.length (pageS ts i).gs.length).gs.length := rfl
        (first | lia | omega)
    · rcases List.mem_append.mp hp with hp | hp
      · have := h3 p hp; (first | lia | omega)
      · have := b3 p hp; (first | lia | omega)
theorem cst_of : ∀ {l : List Int}, (∀ d ∈ l, 0 ≤ d) → l = cst (l.map Int.toNat)
  | [], _ => rfl
  | d :: l, h => by
    have e := cst_of (l := l) fun x hx => h x (.tail _ hx)
    have e0 : ((d.toNat : Nat) : Int) = d := Int.toNat_of_nonneg (h d (.head _))
    show d :: l = ((d.toNat : Nat) : Int) :: cst (l.map Int.toNat)
    rw [e0, ← e]
theorem rows_bd {os : List Int} {gs : List (Int × Int)} {B : Int} (ho : (os.length : Int) ≤ B) (hg : ∀ p ∈ gs, 0 ≤ p.1 ∧ p.1 ≤ B ∧ 0 ≤ p.2 ∧ p.2 ≤ B) : ∀ x ∈ ((rowsF os gs).map R4.li).flatten, 0 ≤ x ∧ x ≤ B := by
  intro x hx
  obtain ⟨l, hl, hx⟩ := List.mem_flatten.mp hx
  obtain ⟨r, hr, rfl⟩ := List.mem_map.mp hl
  obtain ⟨q, n, e1, e2, hn, hq, k⟩ := (rowsS_ok os gs os.length).1 r hr
  obtain ⟨_, ks, km⟩ := k q (Nat.le_refl _) (by (first | lia | omega))
  have gd : ∀ j : Nat, 0 ≤ (gs.getD j (0, 0)).1 ∧ (gs.getD j (0, 0)).1 ≤ B ∧ 0 ≤ (gs.getD j (0, 0)).2 ∧ (gs.getD j (0, 0)).2 ≤ B := fun j => by
    by_cases hj : j < gs.length
    · rw [List.getD_eq_getElem?_getD, List.getElem?_eq_getElem hj]; exact hg _ (List.getElem_mem hj)
    · rw [List.getD_eq_getElem?_getD, List.getElem?_eq_none_iff.mpr (by (first | lia | omega))]
      show 0 ≤ (0 : Int) ∧ (0 : Int) ≤ B ∧ 0 ≤ (0 : Int) ∧ (0 : Int) ≤ B
      (first | lia | omega)
  have g := gd (os.getD q 0).toNat
  rw [← ks, ← km] at g
  rcases hx with _ | ⟨_, _ | ⟨_, _ | ⟨_, _ | ⟨_, hx⟩⟩⟩⟩
  · (first | lia | omega)
  · (first | lia | omega)
  · (first | lia | omega)
  · (first | lia | omega)
  · cases hx
theorem due_run {ws : List (List Nat)} (W : Wds ws) {ts : List Tm} (ok : ∀ t ∈ ts, TmOk t) {deeds : List Nat} (hd : (pageS ts ts.length).ds = cst deeds) (hsz : szS ts ts.length ≤ 60) : ∀ i, i ≤ ts.length → i ≤ 60 →
    (none ∈ (dueS ws ts i).1 ∧ Path ws deeds (rowsF (pageS ts ts.length).os (pageS ts ts.length).gs) ⟨[], [], 0⟩ ⟨(dueS ws ts i).2, [], -1⟩) ∨
    (none ∉ (dueS ws ts i).1 ∧ ∃ vals : List Int, vals.length = i ∧ (dueS ws ts i).1 = vals.map some ∧ Path ws deeds (rowsF (pageS ts ts.length).os (pageS ts ts.length).gs) ⟨[], [], 0⟩ ⟨(dueS ws ts i).2, vals, ((pageS ts i).ds.length : Int)⟩)
  | 0, _, _ => .inr ⟨(nomatch ·), [], rfl, rfl, .rfl⟩
  | i + 1, h, h60 => by
    have ih := due_run W ok hd hsz i (by (first | lia | omega)) (by (first | lia | omega))
    have es : dueS ws ts (i + 1) = if none ∈ (dueS ws ts i).1 then dueS ws ts i else
      ((dueS ws ts i).1 ++ [(worthF ws (ts.getD i (.leaf 0 0))).1], (dueS ws ts i).2 ++ (worthF ws (ts.getD i (.leaf 0 0))).2) := rfl
    have hl := dueS_len (ws := ws) (ts := ts) (i := i) (by (first | lia | omega))
    have hpl := pageS_len (ts := ts) (i := i) (by (first | lia | omega))
    have hz := szS_succ (ts := ts) (i := i) (by (first | lia | omega))
    have hz2 := szS_le ts (i + 1) ts.length h
    rcases ih with ⟨hn, p⟩ | ⟨hn, vals, hv, ev, p⟩
    · rw [if_pos hn] at es
      rw [es]
      exact .inl ⟨hn, p⟩
    · rw [if_neg hn] at es
      obtain ⟨sd, so, sg⟩ := pageS_seg ts (i := i) (by (first | lia | omega))
      rw [hd] at sd
      have s := sim W (ts.getD i (.leaf 0 0)) (-1) i _ _ (dueS ws ts i).2 vals (ok _ (getD_mem (by (first | lia | omega)))) sd so sg hv (fun q => absurd q (by decide)) (by (first | lia | omega)) (by (first | lia | omega))
      have el : (pageS ts (i + 1)).ds.length = (pageS ts i).ds.length + (ts.getD i (.leaf 0 0)).size := by
        rw [show (pageS ts (i + 1)).ds = (pageS ts i).ds ++ (pg1 ts i).ds from rfl, List.length_append, (layN_len _ _ _ _ _).1]
      rw [es, el]
      cases hw : (worthF ws (ts.getD i (.leaf 0 0))).1 with
      | some v =>
        rw [hw] at s
        refine .inr ⟨?_, vals ++ [v], by rw [List.length_append, hv]; rfl, by rw [ev, List.map_append]; rfl, p.trans s⟩
        intro q
        rcases List.mem_append.mp q with q | q
        · exact hn q
        · cases List.mem_singleton.mp q
      | none =>
        rw [hw] at s
        exact .inl ⟨List.mem_append_right _ (.head _), p.trans s⟩
theorem fin_ok {ws : List (List Nat)} (W : Wds ws) {ts : List Tm} (ok : ∀ t ∈ ts, TmOk t) (hsz : szS ts ts.length ≤ 60) (hne : 0 < ts.length) (hl : ts.length ≤ 12) : ∃ deeds rowsN, LawFin ws ts deeds rowsN := by
  have hpl := pageS_len (ts := ts) (i := ts.length) (Nat.le_refl _)
  obtain ⟨b1, b2, b3⟩ := pageS_bd ok (i := ts.length) (Nat.le_refl _)
  have hd : (pageS ts ts.length).ds = cst ((pageS ts ts.length).ds.map Int.toNat) := cst_of fun d h => (b1 d h).1
  have rb := rows_bd (os := (pageS ts ts.length).os) (gs := (pageS ts ts.length).gs) (B := 400) (by (first | lia | omega)) fun p hp => by have := b3 p hp; (first | lia | omega)
  have hr : ((rowsF (pageS ts ts.length).os (pageS ts ts.length).gs).map R4.li).flatten = cst ((((rowsF (pageS ts ts.length).os (pageS ts ts.length).gs).map R4.li).flatten).map Int.toNat) := cst_of fun d h => (rb d h).1
  have low : ∀ n ∈ ((pageS ts ts.length).ds.map Int.toNat).length :: ((pageS ts ts.length).ds.map Int.toNat ++ (((rowsF (pageS ts ts.length).os (pageS ts ts.length).gs).map R4.li).flatten).map Int.toNat), n < 2 ^ 18 := by
    intro n hn
    rcases List.mem_cons.mp hn with rfl | hn
    · rw [List.length_map]; (first | lia | omega)
    · rcases List.mem_append.mp hn with hn | hn
      · obtain ⟨d, h, rfl⟩ := List.mem_map.mp hn
        have := b1 d h; (first | lia | omega)
      · obtain ⟨d, h, rfl⟩ := List.mem_map.mp hn
        have := rb d h; (first | lia | omega)
  have hlen : ((pageS ts ts.length).ds.map Int.toNat).length = (pageS ts ts.length).ds.length := List.length_map ..
  have hpos : 0 < (pageS ts ts.length).ds.length := by
    rw [hpl.1]
    have e : szS ts 1 = szS ts 0 + (ts.getD 0 (.leaf 0 0)).size := szS_succ (ts := ts) (i := 0) hne
    have e2 := szS_le ts 1 ts.length hne
    have e3 : 0 < (ts.getD 0 (.leaf 0 0)).size := by cases ts.getD 0 (.leaf 0 0) <;> simp [Tm.size]
    (first | lia | omega)
  refine ⟨_, _, hd, hr, low, fun o ho => by have := b2 o ho; (first | lia | omega), rds_oct low, ?_⟩
  have hog : ∀ o ∈ (pageS ts ts.length).os, o < (pageS ts ts.length).gs.length := fun o ho => by have := b2 o ho; (first | lia | omega)
  rcases due_run W ok hd hsz ts.length (Nat.le_refl _) (by (first | lia | omega)) with ⟨hn, p⟩ | ⟨hn, vals, hv, ev, p⟩
  · obtain ⟨N, r⟩ := p 0 _ (.done (.inl (by show (-1 : Int) < 0; decide)))
    exact ⟨N, _, r, rfl, by show 0 ≤ 5000; decide, by rw [if_pos hn]; rfl⟩
  · obtain ⟨N, r⟩ := p 0 _ (.done (.inr (by rw [hlen]; exact Int.le_refl _)))
    refine ⟨N, _, r, rfl, by show vals.length ≤ 5000; (first | lia | omega), ?_⟩
    rw [if_neg hn, if_pos (by show (0 : Int) < ((pageS ts ts.length).ds.length : Int); (first | lia | omega)), ev, List.map_map]
    rfl
theorem termF_ok : ∀ (n : Nat) (ns : List Int), (∀ x ∈ ns, 0 ≤ x ∧ x < 10 ^ 6) → TmOk (termF n ns).1 ∧ (termF n ns).1.deep ≤ n ∧ (termF n ns).1.size + 2 * (termF n ns).2.length ≤ 2 * ns.length + 1
  | 0, ns, _ => by
    refine ⟨.leaf (.inl rfl) (by decide) (by decide), by simp [termF, Tm.deep], by simp [termF, Tm.size]; (first | lia | omega)⟩
  | n + 1, [], _ => by
    refine ⟨.leaf (.inl rfl) (by decide) (by decide), by simp [termF, Tm.deep], by simp [termF, Tm.size]⟩
  | n + 1, x :: ns, h => by
    have hx := h x (.head _)
    have f : 0 ≤ x.fmod 6 ∧ x.fmod 6 < 6 := ⟨Int.fmod_nonneg_of_pos _ (by decide), Int.fmod_lt_of_pos _ (by decide)⟩
    by_cases c : x.fmod 6 < 2
    · rw [termF_leaf c]
      have e : x.fdiv 6 = x / 6 := Int.fdiv_eq_ediv_of_nonneg _ (by decide)
      refine ⟨.leaf (by (first | lia | omega)) (by (first | lia | omega)) (by (first | lia | omega)), by simp [Tm.deep], by simp [Tm.size]; (first | lia | omega)⟩
    · rw [termF_node c]
      have hs : ∀ y ∈ ns, 0 ≤ y ∧ y < 10 ^ 6 := fun y hy => h y (.tail _ hy)
      obtain ⟨a1, a2, a3⟩ := termF_ok n ns hs
      obtain ⟨b1, b2, b3⟩ := termF_ok n (termF n ns).2 fun y hy => hs y (termF_mem n ns y hy)
      refine ⟨.node (by (first | lia | omega)) (by (first | lia | omega)) a1 b1, by simp only [Tm.deep]; (first | lia | omega), by simp only [Tm.size, List.length_cons]; (first | lia | omega)⟩
theorem trmsS_ok {tk : List Int} (h : ∀ x ∈ tk, 0 ≤ x ∧ x < 10 ^ 6) : ∀ i, (∀ t ∈ (trmsS i tk).1, TmOk t ∧ t.deep ≤ 13) ∧ (∀ x ∈ (trmsS i tk).2, 0 ≤ x ∧ x < 10 ^ 6) ∧ ((trmsS i tk).1.map Tm.size).sum + 2 * (trmsS i tk).2.length ≤ 2 * tk.length + i ∧ (tk ≠ [] → 0 < i → 0 < (trmsS i tk).1.length)
  | 0 => by
    refine ⟨fun t ht => by simp [trmsS] at ht, h, by simp [trmsS], fun _ q => absurd q (by decide)⟩
  | i + 1 => by
    obtain ⟨h1, h2, h3, h4⟩ := trmsS_ok h i
    have e : trmsS (i + 1) tk = if (trmsS i tk).2 = [] then trmsS i tk else ((trmsS i tk).1 ++ [(termF 13 (trmsS i tk).2).1], (termF 13 (trmsS i tk).2).2) := rfl
    rw [e]
    by_cases c : (trmsS i tk).2 = []
    · rw [if_pos c]
      refine ⟨h1, h2, by (first | lia | omega), fun q _ => ?_⟩
      by_cases z : 0 < i
      · exact h4 q z
      · have : i = 0 := by (first | lia | omega)
        subst this
        exact absurd c q
    · rw [if_neg c]
      obtain ⟨t1, t2, t3⟩ := termF_ok 13 (trmsS i tk).2 h2
      refine ⟨fun t ht => ?_, fun x hx => h2 x (termF_mem 13 _ x hx), ?_, fun _ _ => by rw [List.length_append]; exact Nat.succ_pos _⟩
      · rcases List.mem_append.mp ht with z | z
        · exact h1 t z
        · cases List.mem_singleton.mp z; exact ⟨t1, t2⟩
      · simp only [List.map_append, List.sum_append, List.map_cons, List.map_nil, List.sum_cons, List.sum_nil]
        (first | lia | omega)
theorem letF_ltr (z k i : Nat) : Ltr (letF z k i) := by
  have h : z / 5 ^ (3 * k + i) % 5 < 5 := Nat.mod_lt _ (by decide)
  unfold letF
  generalize z / 5 ^ (3 * k + i) % 5 = j at *
  rcases (show j = 0 ∨ j = 1 ∨ j = 2 ∨ j = 3 ∨ j = 4 by (first | lia | omega)) with rfl | rfl | rfl | rfl | rfl <;> (intro p hp; revert p; decide)
theorem wordF_ltr (z k : Nat) : Ltr (wordF z k) := fun p hp => by
  unfold wordF at hp
  rcases List.mem_append.mp hp with hp | hp
  · rcases List.mem_append.mp hp with hp | hp
    · exact letF_ltr _ _ _ p hp
    · exact letF_ltr _ _ _ p hp
  · exact letF_ltr _ _ _ p hp
theorem wordF_len (z k : Nat) : (wordF z k).length ≤ 3 := by
  have h0 := letF_len z k 0
  have h1 := letF_len z k 1
  have h2 := letF_len z k 2
  unfold wordF
  simp only [List.length_append]; (first | lia | omega)
theorem wsF_at (ns : List Int) (i : Nat) : Ltr ((wsF ns).getD i []) ∧ ((wsF ns).getD i []).length ≤ 3 := by
  by_cases h : i < (wsF ns).length
  · rw [List.getD_eq_getElem?_getD, List.getElem?_eq_getElem h]
    have e : (wsF ns)[i] = wordF (zF ns) i := by simp [wsF]
    rw [e]
    exact ⟨wordF_ltr _ _, wordF_len _ _⟩
  · rw [List.getD_eq_getElem?_getD, List.getElem?_eq_none_iff.mpr (by (first | lia | omega))]
    exact ⟨fun p hp => by simp at hp, Nat.zero_le _⟩
theorem words_ok (ns : List Int) : Wd2 (wsF ns) where
  four := rfl
  lows i := ⟨Nat.le_trans (wsF_at ns i).2 (by decide), fun p hp => low_ok p (.tail _ ((wsF_at ns i).1 p hp))⟩
  low i := ⟨by rw [S_len]; exact Nat.le_trans (wsF_at ns i).2 (by decide), fun j => by
    rw [sg_S]
    refine low_ok _ ?_
    by_cases h : j < ((wsF ns).getD i []).length
    · exact .tail _ ((wsF_at ns i).1.at h)
    · rw [List.getD_eq_getElem?_getD, List.getElem?_eq_none_iff.mpr (by (first | lia | omega))]; exact .head _⟩
  ap i j := (lev_is (wsF_at ns i).1 (wsF_at ns j).1 (wsF_at ns i).2 (wsF_at ns j).2).2
  lev i j := (lev_is (wsF_at ns i).1 (wsF_at ns j).1 (wsF_at ns i).2 (wsF_at ns j).2).1
theorem law_all (ns : List Int) : LawOk ns := by
  have tk : ∀ x ∈ tksF ns, 0 ≤ x ∧ x < 10 ^ 6 := fun x hx => by
    obtain ⟨k, _, rfl⟩ := List.mem_map.mp hx
    exact ⟨Int.fmod_nonneg_of_pos _ (by decide), Int.fmod_lt_of_pos _ (by decide)⟩
  obtain ⟨h1, _, h3, h4⟩ := trmsS_ok tk 12
  have hl := (trmsS_len (tksF ns) 12).1
  have e12 : (tksF ns).length = 12 := rfl
  have hsz : szS (trmsF ns) (trmsF ns).length ≤ 60 := by
    unfold szS
    rw [List.take_length]
    show ((trmsS 12 (tksF ns)).1.map Tm.size).sum ≤ 60
    (first | lia | omega)
  have W := words_ok ns
  exact ⟨W, h1, hsz, fin_ok W.toWds (fun t ht => (h1 t ht).1) hsz (h4 (fun q => by rw [q] at e12; cases e12) (by decide)) hl⟩
set_option maxHeartbeats 8000000
noncomputable abbrev tabs3 : List (Addr × Addr) := [(78, 74), (71, 67), (144, 142)]
noncomputable abbrev rw1 := PySem.Challenge.rw_rw0079_01
theorem dens_ints {g : FB} : ∀ {vs : List Value} {ns : List Int}, IntsAre vs ns → Dens g vs (ns.map .int)
  | _, _, .nil => .nil
  | _, _, .cons i t r => .cons (.int i t) (dens_ints r)
theorem core {w : World} {s₁ : Shared} {mg mb : Str → Option Value} {mean : ExcName → Option Value} {cl : Str → Option Addr} {fa l : Addr} {vs : List Value} {ns : List Int} {q : Program} {loose : List Str}
    (ok : LawOk ns) (T : Top q loose mean mg mb s₁.heap) (KX : (hd.heap_1 w.params).In s₁.heap) (hT : TabsAt tabs3 s₁.heap) (hg : s₁.gens = #[]) (hmg : mg "law" = some (.ref fa))
    (hL : s₁.heap.IsList l vs.toArray) (hI : IntsAre vs ns) (hlen : ¬ (63 : Int) < ns.length) :
    codeAny (model rw1.row.prog w) callerA (.call (.ref fa) ⟨[.ref l], []⟩) (GoodWG rw1.row.claim cl mean [ofPy (.list (ns.map .int))] s₁) s₁ := by
  have hfa : fa = 162 := by
    have e := mg_of (n := "law") (v := .ref 162) KX T.g (by kernel_rfl)
    rw [hmg] at e
    cases e; rfl
  subst hfa
  refine kn_post hT (fun _ _ => rfl) ?_
  let c : GC := ⟨w, _, _, _, mg, mb, ghostOf s₁.heap tabs3, s₁.os, ghost_K hT KX (by kernel_rfl), ghost_top hT T⟩
  have hgone : ∀ p ∈ runMu, (ghostOf s₁.heap tabs3).get? p.1 = none := by
    intro p hp
    refine hideAll_none _ ?_
    rcases hp with _ | ⟨_, _ | ⟨_, _ | ⟨_, hp⟩⟩⟩
    · exact .tail _ (.head _)
    · exact .head _
    · exact .tail _ (.tail _ (.head _))
    · cases hp
  have P : Pre c (fun a => (ghostOf s₁.heap tabs3).get? a) runMu s₁.heap := by
    refine ⟨fun _ _ e => e, fun a o e => of_hideAll _ e, fun p hp => ⟨?_, hgone p hp⟩, by decide⟩
    rcases hp with _ | ⟨_, _ | ⟨_, _ | ⟨_, hp⟩⟩⟩
    · exact ⟨_, (hT (71, 67) (.tail _ (.head _))).2, ⟨_, .rfl, .inl rfl⟩⟩
    · exact ⟨_, (hT (78, 74) (.head _)).2, ⟨_, .rfl, .inl rfl⟩⟩
    · exact ⟨_, (hT (144, 142) (.tail _ (.tail _ (.head _)))).2, ⟨_, .rfl, .inl rfl⟩⟩
    · cases hp
  have hv : SomeL (fun a => (ghostOf s₁.heap tabs3).get? a) l (ns.map .int) := by
    obtain ⟨o, e, hc, n, hd⟩ := ghost_list hT hL
    exact ⟨o, vs, _, e, hc, hd, dens_ints hI⟩
  have key := law_spec (c := c) (A := callerA) ⟨rfl, by decide, by decide⟩ P ?stk hv (by (first | lia | omega)) ok
  case stk => exact ⟨[], rfl, fun _ h => nomatch h⟩
  refine codeAny_mono (key.run s₁ rfl ⟨rfl, hg⟩) fun r s' ⟨⟨g', er, R⟩, hr⟩ => ?_
  subst er
  refine ⟨⟨.inl ⟨_, _, _, rfl, fun _ => rfl, .bool true, by kernel_rfl, fun _ => ⟨.nil, fun a ha => nomatch ha⟩⟩, fun b o e => R.gh _ _ (R.g0 _ _ e), hr.1, hr.2⟩, ?_⟩
  have tab : ∀ {P : Addr} {pos : Pos} {qual : Str}, (P, OC.tab pos qual) ∈ runMu → GrownAt P s'.heap := by
    intro P pos qual hm
    obtain ⟨⟨o, e, i⟩, _⟩ := R.ow _ hm
    obtain ⟨g₀, _, i⟩ := i
    rcases i with i | ⟨c', i, _⟩
    · exact ⟨_, i ▸ e⟩
    · exact ⟨_, i ▸ e⟩
  exact ⟨tab (.tail _ (.head _)), tab (.head _), tab (.tail _ (.tail _ (.head _))), trivial⟩
theorem join (ok : ∀ ns : List Int, ns.length ≤ 63 → LawOk ns) : rw1.Holds := hd (by
  k_fill
  intro w s₀ s₁ mg mb G Y fa o pm cd doc dV kV ho hd hcd hD hmg hg args vals as hpre hlay hrd hwl hlo
  have KX := km_in_of Y
  km_tabs Y
  refine Ground.open G ?_
  intro T B D TE TW
  km_lay T hmg ho hd cd
  wrow_args hpre hlay hrd hwl hlo
  refine enter_call ?_
  rename_i hc1 hc2
  exact core (ok _ (by (first | lia | omega))) T KX hT9 hg hmg (by assumption) (by assumption) (by assumption))
end Mine
theorem PySem.Challenge.cw_rw0079_01_holds : PySem.Challenge.rw_rw0079_01.Holds := by
  exact Mine.join fun ns _ => Mine.law_all ns
